import PyProof.Rows.All
import Wide.All
import OpenK.AllK
import Wide.FinOn
import KE.KNestM
import Lean
import PySem.Challenge.RW_iv0009_01
set_option Elab.async false
set_option linter.unusedVariables false
set_option maxRecDepth 100000
set_option maxHeartbeats 8000000
set_option tactic.hygienic false
set_option compiler.extract_closed false
open PySem.Str renaming ofString->aa
open PySem renaming Value->ae,Shared->ah,Expr->ai,Params->ak,Env->av,Pos->ax,Around->aA,Stmt->aC,wpAny_bind->aJ,wpAny_pure->bj,Tok->bE,wpAny_execs_cons->bT,Flow->cJ,FuncData->dv,wpAny_loadName_local->dI,wpAny_Name->dO,wpAny_execs_nil->dQ,wpAny_Constant_int->d0,DictEntry->eO,CmpOp->e6,World->fb,wpAny_mono->fL,wpAny_BinOp->fP,GenState->gy,seg_bind_wrap->gT,OsState->ii,wpAny_Assign_Name->ik,wpAny_Return_some->il,wpAny_holding->iM,Const->jh,wpAny_call->jp,wpAny_If->jq,Program->j8,wpAny_Constant_str->kb,wpAny_assign_Name->kc,wpAny_standAt->lk,wpAny_storeName_local->lm,Operator->mx,sizeLine_eq->mD,Comprehension->oo,typeIs_str->oG,wpAny_isTrue_Compare1->oK,codeAny_builtin->oO,IsRangeIter->oQ,wpAny_field->rn,wpAny_newObj_type->ro,wpAny_rule->rA,plainId_quiet->rB,codeAny_call_def->rG,concat_meets->vJ,wpAny_UnaryOp->vW,wpAny_Expr->wc,noFill_tuple_add->CN,seq_tuple_add->CO,wpAny_truthy_bool->CV,wpAny_specialOf->CX,slot_list_getitem->CY,wpAny_Compare1->C',wpAny_newList->Dc,wpAny_newFunctionEnv->Dd,wpAny_updateSeq->Df,wpAt->Dk,wpAt_of_wpAny->Pi
open Nat renaming le_trans->ao,le_add_right->bk,le_of_ble_eq_true->bz,le_refl->bO,le_add_left->cV,ble->db,le_of_eq->dq,lt_of_le_of_lt->dt,zero_le->dZ,add_le_add_left->ey,lt_of_lt_of_le->eN,ne_of_lt->eZ,succ_le_succ->fJ,zero_add->fK,le_of_lt->fM,lt_succ_self->gh,sub_le->ie,add_assoc->je,lt_irrefl->jg,succ_pos->j7,add_right_comm->lc,mul_le_mul_left->lf,lt_succ_of_lt->lg,ne_of_gt->mB,le_succ->mG,add_comm->om,lt_or_ge->oA,not_lt_zero->oF,add_le_add_right->q0,lt_of_succ_lt->q8,lt_succ_of_le->q9,sub_zero->rj,sub_lt_sub_left->vB,lt_trans->vC,min_le_right->vN,min_le_left->vO,add_sub_cancel->ww,sub_add_cancel->CJ,lt_add_of_pos_right->CK,succ_ne_zero->CW,le_succ_of_le->Dh,add_le_add->Dp,ble_eq_true_of_le->OT,le_sub_one_of_lt->OU,add_sub_cancel'->OV,add_right_cancel->OW,sub_eq_zero_of_le->O9,add_sub_cancel_left->Pl,pow_le_pow_right->Po
open Bool renaming and_eq_true->aI,or_eq_true->gS,false_ne_true->kd,and_false->ke,or_eq_false_iff->ki,not_eq_true'->lj,and_eq_false_iff->lu,not_eq_true->mE,and_eq_true_iff->oE,false_eq_true->oN,eq_iff_iff->rf,eq_false_iff->vS,noConfusion->vZ,true_and->CT,not_eq_false'->Dt
open List renaming all_eq_true->ba,mem_cons->bR,append_assoc->bU,lookup_cons->ca,length_map->cm,length_append->cy,mem_singleton->du,mem_cons_of_mem->dN,length_drop->eh,not_mem_nil->eQ,map_cons->fe,mem_cons_self->fO,getElem?_eq_getElem->fQ,length_cons->gj,drop_zero->gz,isEmpty_iff->gR,mem_append->gU,all_cons->gV,mem_map->ij,range->iL,mem_range->ji,length_take->jj,append_nil->j9,foldl_cons->ka,drop_drop->kf,take_append_drop->kh,isPrefixOf_iff_prefix->lh,isSuffixOf_iff_suffix->li,getElem?_map->ll,mem_map_of_mem->lp,foldl_append->lr,length_nil->mz,cons_append->mA,zip_cons_cons->mF,takeWhile_append_dropWhile->mH,all_takeWhile->mI,mem_filterMap->oz,eq_nil_of_length_eq_zero->oH,size_toArray->oJ,takeWhile_sublist->oR,map_map->oS,drop_of_length_le->rk,map_nil->rm,any_cons->rt,getElem_mem->rE,contains_iff_mem->rH,take_left->rI,all_append->rJ,length->vM,getElem?_eq_some_iff->vR,nil_append->vT,filter_cons->vX,filterMap_cons->vY,take_add_one->v0,drop_eq_getElem_cons->v4,any_eq_false->wg,toList_toArray->wk,mem_of_mem_take->wo,map_append->wt,filter_eq_nil_iff->wu,any_map->wv,mem_append_left->wx,drop_succ_cons->CU,take_length->CZ,take_of_length_le->C0,drop_take->C1,foldl_nil->C2,dropLast_eq_take->C7,length_dropLast->C8,mem_filter->Da,mem_of_getElem?->Db,nodup_cons->Dj,mem_of_getLast?->Dl,length_pos_iff->Ds,length_reverse->Du,isEmpty_map->Dv,prefix_iff_eq_take->O6,length_singleton->Ph,dropLast_subset->Pj,getElem?_drop->Pm,getElem?_append_left->Pn,getElem?_reverse->Pp,map_congr_left->Pq,dropLast_concat_getLast->Pr,getLast?_append->Ps,mem_append_right->Pt,getLast?_eq_none_iff->Pu,mem_of_mem_drop->Pw
open PySem.W renaming mg_of->bG,boot_heap->gi,SharedT->ot,boot_drawn->ow,boot_toks->oy,hideAll_get->we,ks_superIn->wj
open PySem.Heap renaming get?_push_of_some->bX,get?_none_of_le->dP,get?_push_size->ee,lt_size->eA,ExtBut->eP,size_push->jn,FlyingW->vI,get?_update_self->v6,get?_update_other->v7,MadeExcOf->wb
open Or renaming elim->ck
open LawfulBEq renaming eq_of_beq->cG
open Ne renaming symm->cH
open PyProof.Rows renaming News->eE,Call_Name->gA,IntsAre->lq,Subscript_->oM,slot_tuple_getitem->rh,neg_int->De
open Int renaming ofNat->fc,le_trans->jf,lt_of_le_of_lt->oi,ofNat_le->oj,add_comm->ol,le_of_lt->q7,natCast_nonneg->rc,ofNat_lt->re,toNat_of_nonneg->rg,toNat_lt->vD,not_lt->vE,sub_zero->vG,ne_of_gt->vK,emod_lt_of_pos->wm,add_one_le_of_lt->wn,emod_nonneg->Dn,add_nonneg->Do,toNat_le->Dq,lt_add_one_of_le->Pk,eq_ofNat_of_zero_le->Pv
open PySem.Challenge renaming rw_iv0009_01->gx,pw_iv0009_01->ig
open PySem.Value renaming str->gB,none->j',type->rC,ref->rF
open PySem.Expr renaming Name->jk
open Eq renaming trans->kg
open Option renaming map_eq_some_iff->my,bind_eq_some_iff->C9,isNone_iff_eq_none->Dr
open Array renaming mk->ou,length_toList->oC,isEmpty->vP,getElem?_eq_none->vQ,getElem?_toList->O7
open PySem.Around renaming under_plainId->oP
open Option.some renaming inj->vF
open PySem.Expr.Attribute renaming elim->vH
open PySem.PyData renaming depthAll->vL,keyHash->CL,canLayAll0->CS
open PySem.Builtin.Slice renaming slicePlaces->vU,sliceAdjust->C6,sliceApplied->Pa
open PySem.Builtin.Tuple renaming tupleExact->vV
open PySem.F renaming plain_any_loop->v3,plain_extend_loop->v5,slot_tuple_add->CP,entry_tuple_add->CQ,args_tuple_add_2->CR,slot_str_split->C3,entry_str_split->C4,args_str_split_2->C5,slot_str_getitem->O8,entry_any_loop->Pb,entry_extend_loop->Pc,plain_list_iadd->Pd
open PySem.Obj renaming mapSeq->v8,mapFields->Di
open PySem.Shared renaming setGen->v9
open PySem.Operator renaming Add->wp,Sub->wq
open PySem.W.RowW renaming records->CM
open PySem.Sem renaming onRaise_eq_wrap->Dg
open PySem.BindsTo renaming of_defaults->Dm
open PySem.Expr.Constant renaming elim->OX
open PySem.Expr.Name renaming elim->OY
open PySem.Expr.Tuple renaming elim->OZ
open PySem.Expr.Compare renaming elim->O0
open PySem.Expr.Call renaming elim->O1
open PySem.Expr.GeneratorExp renaming elim->O2
open PySem.Expr.ListComp renaming elim->O3
open PySem.Expr.Slice renaming elim->O4
open PySem.Builtin.Int renaming intBits->O5
open PySem.StrLaws renaming glued_eq_join->O'
open PySem.Builtin.List renaming listExtendWith->Pe,listSameRef->Pf
open PySem.Expr.Subscript renaming elim->Pg
namespace Mine
open PySem PySem.W PySem.Calls PyProof.Rows PySem.Builtin PySem.Builtin.Str
section
theorem xA{p0:Prop}{p1:Prop}{G:Prop}(h:p0/\ p1)(k:p0->p1->G):G:=by obtain⟨c0,c1⟩:=h;exact k c0 c1
theorem xE{α0:Sort _}{p0:α0->Prop}{G:Prop}(h:∃x0:α0,p0 x0)(k:∀x0:α0,p0 x0->G):G:=by obtain⟨c0,c1⟩:=h;exact k c0 c1
theorem bL{p0:Prop}{p1:Prop}{p2:Prop}{G:Prop}(h:p0/\ p1/\ p2)(k:p0->p1->p2->G):G:=by obtain⟨c0,c1,c2⟩:=h;exact k c0 c1 c2
theorem ay{α0:Sort _}{p0:α0->Prop}{p1:α0->Prop}{G:Prop}(h:∃x0:α0,p0 x0/\ p1 x0)(k:∀x0:α0,p0 x0->p1 x0->G):G:=by obtain⟨c0,c1,c2⟩:=h;exact k c0 c1 c2
theorem dw{α0:Sort _}{α1:Sort _}{p0:α0->α1->Prop}{G:Prop}(h:∃x0:α0,∃x1:α1,p0 x0 x1)(k:∀x0:α0,∀x1:α1,p0 x0 x1->G):G:=by obtain⟨c0,c1,c2⟩:=h;exact k c0 c1 c2
theorem oU{p0:Prop}{p1:Prop}{p2:Prop}{p3:Prop}{G:Prop}(h:p0/\ p1/\ p2/\ p3)(k:p0->p1->p2->p3->G):G:=by obtain⟨c0,c1,c2,c3⟩:=h;exact k c0 c1 c2 c3
theorem rK{α0:Sort _}{p0:Prop}{p1:Prop}{p2:α0->Prop}{G:Prop}(h:p0/\ p1/\ (∃x0:α0,p2 x0))(k:p0->p1->∀x0:α0,p2 x0->G):G:=by obtain⟨c0,c1,c2,c3⟩:=h;exact k c0 c1 c2 c3
theorem dJ{α0:Sort _}{p0:Prop}{p1:α0->Prop}{p2:α0->Prop}{G:Prop}(h:p0/\ (∃x0:α0,p1 x0/\ p2 x0))(k:p0->∀x0:α0,p1 x0->p2 x0->G):G:=by obtain⟨c0,c1,c2,c3⟩:=h;exact k c0 c1 c2 c3
theorem bA{α0:Sort _}{p0:α0->Prop}{p1:α0->Prop}{p2:α0->Prop}{G:Prop}(h:∃x0:α0,p0 x0/\ p1 x0/\ p2 x0)(k:∀x0:α0,p0 x0->p1 x0->p2 x0->G):G:=by obtain⟨c0,c1,c2,c3⟩:=h;exact k c0 c1 c2 c3
theorem Dw{α0:Sort _}{α1:Sort _}{p0:α0->Prop}{p1:α0->α1->Prop}{G:Prop}(h:∃x0:α0,p0 x0/\ (∃x1:α1,p1 x0 x1))(k:∀x0:α0,p0 x0->∀x1:α1,p1 x0 x1->G):G:=by obtain⟨c0,c1,c2,c3⟩:=h;exact k c0 c1 c2 c3
theorem dR{α0:Sort _}{α1:Sort _}{p0:α0->α1->Prop}{p1:α0->α1->Prop}{G:Prop}(h:∃x0:α0,∃x1:α1,p0 x0 x1/\ p1 x0 x1)(k:∀x0:α0,∀x1:α1,p0 x0 x1->p1 x0 x1->G):G:=by obtain⟨c0,c1,c2,c3⟩:=h;exact k c0 c1 c2 c3
theorem wy{α0:Sort _}{α1:Sort _}{α2:Sort _}{p0:α0->α1->α2->Prop}{G:Prop}(h:∃x0:α0,∃x1:α1,∃x2:α2,p0 x0 x1 x2)(k:∀x0:α0,∀x1:α1,∀x2:α2,p0 x0 x1 x2->G):G:=by obtain⟨c0,c1,c2,c3⟩:=h;exact k c0 c1 c2 c3
theorem kj{p0:Prop}{p1:Prop}{p2:Prop}{p3:Prop}{p4:Prop}{G:Prop}(h:p0/\ p1/\ p2/\ p3/\ p4)(k:p0->p1->p2->p3->p4->G):G:=by obtain⟨c0,c1,c2,c3,c4⟩:=h;exact k c0 c1 c2 c3 c4
theorem Dx{α0:Sort _}{p0:Prop}{p1:Prop}{p2:α0->Prop}{p3:α0->Prop}{G:Prop}(h:p0/\ p1/\ (∃x0:α0,p2 x0/\ p3 x0))(k:p0->p1->∀x0:α0,p2 x0->p3 x0->G):G:=by obtain⟨c0,c1,c2,c3,c4⟩:=h;exact k c0 c1 c2 c3 c4
theorem Px{α0:Sort _}{α1:Sort _}{p0:Prop}{p1:α0->α1->Prop}{p2:α0->α1->Prop}{G:Prop}(h:p0/\ (∃x0:α0,∃x1:α1,p1 x0 x1/\ p2 x0 x1))(k:p0->∀x0:α0,∀x1:α1,p1 x0 x1->p2 x0 x1->G):G:=by obtain⟨c0,c1,c2,c3,c4⟩:=h;exact k c0 c1 c2 c3 c4
theorem wz{α0:Sort _}{p0:α0->Prop}{p1:α0->Prop}{p2:α0->Prop}{p3:α0->Prop}{G:Prop}(h:∃x0:α0,p0 x0/\ p1 x0/\ p2 x0/\ p3 x0)(k:∀x0:α0,p0 x0->p1 x0->p2 x0->p3 x0->G):G:=by obtain⟨c0,c1,c2,c3,c4⟩:=h;exact k c0 c1 c2 c3 c4
theorem oV{α0:Sort _}{α1:Sort _}{p0:α0->Prop}{p1:α0->Prop}{p2:α0->α1->Prop}{G:Prop}(h:∃x0:α0,p0 x0/\ p1 x0/\ (∃x1:α1,p2 x0 x1))(k:∀x0:α0,p0 x0->p1 x0->∀x1:α1,p2 x0 x1->G):G:=by obtain⟨c0,c1,c2,c3,c4⟩:=h;exact k c0 c1 c2 c3 c4
theorem io{α0:Sort _}{α1:Sort _}{p0:α0->α1->Prop}{p1:α0->α1->Prop}{p2:α0->α1->Prop}{G:Prop}(h:∃x0:α0,∃x1:α1,p0 x0 x1/\ p1 x0 x1/\ p2 x0 x1)(k:∀x0:α0,∀x1:α1,p0 x0 x1->p1 x0 x1->p2 x0 x1->G):G:=by obtain⟨c0,c1,c2,c3,c4⟩:=h;exact k c0 c1 c2 c3 c4
theorem dc{α0:Sort _}{α1:Sort _}{α2:Sort _}{p0:α0->α1->α2->Prop}{p1:α0->α1->α2->Prop}{G:Prop}(h:∃x0:α0,∃x1:α1,∃x2:α2,p0 x0 x1 x2/\ p1 x0 x1 x2)(k:∀x0:α0,∀x1:α1,∀x2:α2,p0 x0 x1 x2->p1 x0 x1 x2->G):G:=by obtain⟨c0,c1,c2,c3,c4⟩:=h;exact k c0 c1 c2 c3 c4
theorem wA{α0:Sort _}{α1:Sort _}{α2:Sort _}{α3:Sort _}{p0:α0->α1->α2->α3->Prop}{G:Prop}(h:∃x0:α0,∃x1:α1,∃x2:α2,∃x3:α3,p0 x0 x1 x2 x3)(k:∀x0:α0,∀x1:α1,∀x2:α2,∀x3:α3,p0 x0 x1 x2 x3->G):G:=by obtain⟨c0,c1,c2,c3,c4⟩:=h;exact k c0 c1 c2 c3 c4
theorem Dy{p0:Prop}{p1:Prop}{p2:Prop}{p3:Prop}{p4:Prop}{p5:Prop}{G:Prop}(h:p0/\ p1/\ p2/\ p3/\ p4/\ p5)(k:p0->p1->p2->p3->p4->p5->G):G:=by obtain⟨c0,c1,c2,c3,c4,c5⟩:=h;exact k c0 c1 c2 c3 c4 c5
theorem Dz{α0:Sort _}{p0:Prop}{p1:α0->Prop}{p2:α0->Prop}{p3:α0->Prop}{p4:α0->Prop}{G:Prop}(h:p0/\ (∃x0:α0,p1 x0/\ p2 x0/\ p3 x0/\ p4 x0))(k:p0->∀x0:α0,p1 x0->p2 x0->p3 x0->p4 x0->G):G:=by obtain⟨c0,c1,c2,c3,c4,c5⟩:=h;exact k c0 c1 c2 c3 c4 c5
theorem wB{α0:Sort _}{p0:α0->Prop}{p1:α0->Prop}{p2:α0->Prop}{p3:α0->Prop}{p4:α0->Prop}{G:Prop}(h:∃x0:α0,p0 x0/\ p1 x0/\ p2 x0/\ p3 x0/\ p4 x0)(k:∀x0:α0,p0 x0->p1 x0->p2 x0->p3 x0->p4 x0->G):G:=by obtain⟨c0,c1,c2,c3,c4,c5⟩:=h;exact k c0 c1 c2 c3 c4 c5
theorem mJ{α0:Sort _}{α1:Sort _}{p0:α0->α1->Prop}{p1:α0->α1->Prop}{p2:α0->α1->Prop}{p3:α0->α1->Prop}{G:Prop}(h:∃x0:α0,∃x1:α1,p0 x0 x1/\ p1 x0 x1/\ p2 x0 x1/\ p3 x0 x1)(k:∀x0:α0,∀x1:α1,p0 x0 x1->p1 x0 x1->p2 x0 x1->p3 x0 x1->G):G:=by obtain⟨c0,c1,c2,c3,c4,c5⟩:=h;exact k c0 c1 c2 c3 c4 c5
theorem gC{α0:Sort _}{α1:Sort _}{α2:Sort _}{p0:α0->α1->α2->Prop}{p1:α0->α1->α2->Prop}{p2:α0->α1->α2->Prop}{G:Prop}(h:∃x0:α0,∃x1:α1,∃x2:α2,p0 x0 x1 x2/\ p1 x0 x1 x2/\ p2 x0 x1 x2)(k:∀x0:α0,∀x1:α1,∀x2:α2,p0 x0 x1 x2->p1 x0 x1 x2->p2 x0 x1 x2->G):G:=by obtain⟨c0,c1,c2,c3,c4,c5⟩:=h;exact k c0 c1 c2 c3 c4 c5
theorem Py{α0:Sort _}{α1:Sort _}{α2:Sort _}{α3:Sort _}{p0:α0->α1->α2->α3->Prop}{p1:α0->α1->α2->α3->Prop}{G:Prop}(h:∃x0:α0,∃x1:α1,∃x2:α2,∃x3:α3,p0 x0 x1 x2 x3/\ p1 x0 x1 x2 x3)(k:∀x0:α0,∀x1:α1,∀x2:α2,∀x3:α3,p0 x0 x1 x2 x3->p1 x0 x1 x2 x3->G):G:=by obtain⟨c0,c1,c2,c3,c4,c5⟩:=h;exact k c0 c1 c2 c3 c4 c5
theorem gW{α0:Sort _}{α1:Sort _}{p0:Prop}{p1:α0->α1->Prop}{p2:α0->α1->Prop}{p3:α0->α1->Prop}{p4:α0->α1->Prop}{G:Prop}(h:p0/\ (∃x0:α0,∃x1:α1,p1 x0 x1/\ p2 x0 x1/\ p3 x0 x1/\ p4 x0 x1))(k:p0->∀x0:α0,∀x1:α1,p1 x0 x1->p2 x0 x1->p3 x0 x1->p4 x0 x1->G):G:=by obtain⟨c0,c1,c2,c3,c4,c5,c6⟩:=h;exact k c0 c1 c2 c3 c4 c5 c6
theorem wC{α0:Sort _}{α1:Sort _}{α2:Sort _}{p0:α0->α1->α2->Prop}{p1:α0->α1->α2->Prop}{p2:α0->α1->α2->Prop}{p3:α0->α1->α2->Prop}{G:Prop}(h:∃x0:α0,∃x1:α1,∃x2:α2,p0 x0 x1 x2/\ p1 x0 x1 x2/\ p2 x0 x1 x2/\ p3 x0 x1 x2)(k:∀x0:α0,∀x1:α1,∀x2:α2,p0 x0 x1 x2->p1 x0 x1 x2->p2 x0 x1 x2->p3 x0 x1 x2->G):G:=by obtain⟨c0,c1,c2,c3,c4,c5,c6⟩:=h;exact k c0 c1 c2 c3 c4 c5 c6
theorem mK{α0:Sort _}{α1:Sort _}{p0:α0->α1->Prop}{p1:α0->α1->Prop}{p2:α0->α1->Prop}{p3:α0->α1->Prop}{p4:α0->α1->Prop}{p5:α0->α1->Prop}{G:Prop}(h:∃x0:α0,∃x1:α1,p0 x0 x1/\ p1 x0 x1/\ p2 x0 x1/\ p3 x0 x1/\ p4 x0 x1/\ p5 x0 x1)(k:∀x0:α0,∀x1:α1,p0 x0 x1->p1 x0 x1->p2 x0 x1->p3 x0 x1->p4 x0 x1->p5 x0 x1->G):G:=by obtain⟨c0,c1,c2,c3,c4,c5,c6,c7⟩:=h;exact k c0 c1 c2 c3 c4 c5 c6 c7
theorem rL{α0:Sort _}{α1:Sort _}{α2:Sort _}{α3:Sort _}{p0:α0->α1->α2->α3->Prop}{p1:α0->α1->α2->α3->Prop}{p2:α0->α1->α2->α3->Prop}{p3:α0->α1->α2->α3->Prop}{G:Prop}(h:∃x0:α0,∃x1:α1,∃x2:α2,∃x3:α3,p0 x0 x1 x2 x3/\ p1 x0 x1 x2 x3/\ p2 x0 x1 x2 x3/\ p3 x0 x1 x2 x3)(k:∀x0:α0,∀x1:α1,∀x2:α2,∀x3:α3,p0 x0 x1 x2 x3->p1 x0 x1 x2 x3->p2 x0 x1 x2 x3->p3 x0 x1 x2 x3->G):G:=by obtain⟨c0,c1,c2,c3,c4,c5,c6,c7⟩:=h;exact k c0 c1 c2 c3 c4 c5 c6 c7
theorem Pz{α0:Sort _}{α1:Sort _}{α2:Sort _}{α3:Sort _}{p0:α0->α1->α2->α3->Prop}{p1:α0->α1->α2->α3->Prop}{p2:α0->α1->α2->α3->Prop}{p3:α0->α1->α2->α3->Prop}{p4:α0->α1->α2->α3->Prop}{p5:α0->α1->α2->α3->Prop}{G:Prop}(h:∃x0:α0,∃x1:α1,∃x2:α2,∃x3:α3,p0 x0 x1 x2 x3/\ p1 x0 x1 x2 x3/\ p2 x0 x1 x2 x3/\ p3 x0 x1 x2 x3/\ p4 x0 x1 x2 x3/\ p5 x0 x1 x2 x3)(k:∀x0:α0,∀x1:α1,∀x2:α2,∀x3:α3,p0 x0 x1 x2 x3->p1 x0 x1 x2 x3->p2 x0 x1 x2 x3->p3 x0 x1 x2 x3->p4 x0 x1 x2 x3->p5 x0 x1 x2 x3->G):G:=by obtain⟨c0,c1,c2,c3,c4,c5,c6,c7,c8,c9⟩:=h;exact k c0 c1 c2 c3 c4 c5 c6 c7 c8 c9
theorem wD{α0:Sort _}{α1:Sort _}{α2:Sort _}{α3:Sort _}{α4:Sort _}{p0:α0->α1->α2->α3->α4->Prop}{p1:α0->α1->α2->α3->α4->Prop}{p2:α0->α1->α2->α3->α4->Prop}{p3:α0->α1->α2->α3->α4->Prop}{p4:α0->α1->α2->α3->α4->Prop}{G:Prop}(h:∃x0:α0,∃x1:α1,∃x2:α2,∃x3:α3,∃x4:α4,p0 x0 x1 x2 x3 x4/\ p1 x0 x1 x2 x3 x4/\ p2 x0 x1 x2 x3 x4/\ p3 x0 x1 x2 x3 x4/\ p4 x0 x1 x2 x3 x4)(k:∀x0:α0,∀x1:α1,∀x2:α2,∀x3:α3,∀x4:α4,p0 x0 x1 x2 x3 x4->p1 x0 x1 x2 x3 x4->p2 x0 x1 x2 x3 x4->p3 x0 x1 x2 x3 x4->p4 x0 x1 x2 x3 x4->G):G:=by obtain⟨c0,c1,c2,c3,c4,c5,c6,c7,c8,c9⟩:=h;exact k c0 c1 c2 c3 c4 c5 c6 c7 c8 c9
theorem DA{α0:Sort _}{α1:Sort _}{α2:Sort _}{α3:Sort _}{α4:Sort _}{α5:Sort _}{α6:Sort _}{α7:Sort _}{α8:Sort _}{p0:α0->α1->α2->α3->α4->α5->α6->α7->α8->Prop}{G:Prop}(h:∃x0:α0,∃x1:α1,∃x2:α2,∃x3:α3,∃x4:α4,∃x5:α5,∃x6:α6,∃x7:α7,∃x8:α8,p0 x0 x1 x2 x3 x4 x5 x6 x7 x8)(k:∀x0:α0,∀x1:α1,∀x2:α2,∀x3:α3,∀x4:α4,∀x5:α5,∀x6:α6,∀x7:α7,∀x8:α8,p0 x0 x1 x2 x3 x4 x5 x6 x7 x8->G):G:=by obtain⟨c0,c1,c2,c3,c4,c5,c6,c7,c8,c9⟩:=h;exact k c0 c1 c2 c3 c4 c5 c6 c7 c8 c9
theorem rM{α0:Sort _}{α1:Sort _}{α2:Sort _}{α3:Sort _}{α4:Sort _}{α5:Sort _}{α6:Sort _}{α7:Sort _}{α8:Sort _}{α9:Sort _}{p0:α0->α1->α2->α3->α4->α5->α6->α7->α8->α9->Prop}{p1:α0->α1->α2->α3->α4->α5->α6->α7->α8->α9->Prop}{G:Prop}(h:∃x0:α0,∃x1:α1,∃x2:α2,∃x3:α3,∃x4:α4,∃x5:α5,∃x6:α6,∃x7:α7,∃x8:α8,∃x9:α9,p0 x0 x1 x2 x3 x4 x5 x6 x7 x8 x9/\ p1 x0 x1 x2 x3 x4 x5 x6 x7 x8 x9)(k:∀x0:α0,∀x1:α1,∀x2:α2,∀x3:α3,∀x4:α4,∀x5:α5,∀x6:α6,∀x7:α7,∀x8:α8,∀x9:α9,p0 x0 x1 x2 x3 x4 x5 x6 x7 x8 x9->p1 x0 x1 x2 x3 x4 x5 x6 x7 x8 x9->G):G:=by obtain⟨c0,c1,c2,c3,c4,c5,c6,c7,c8,c9,c10,c11⟩:=h;exact k c0 c1 c2 c3 c4 c5 c6 c7 c8 c9 c10 c11
theorem DD{α0:Sort _}{α1:Sort _}{α2:Sort _}{α3:Sort _}{α4:Sort _}{p0:α0->α1->α2->α3->α4->Prop}{p1:α0->α1->α2->α3->α4->Prop}{p2:α0->α1->α2->α3->α4->Prop}{p3:α0->α1->α2->α3->α4->Prop}{p4:α0->α1->α2->α3->α4->Prop}{p5:α0->α1->α2->α3->α4->Prop}{p6:α0->α1->α2->α3->α4->Prop}{p7:α0->α1->α2->α3->α4->Prop}{p8:α0->α1->α2->α3->α4->Prop}{G:Prop}(h:∃x0:α0,∃x1:α1,∃x2:α2,∃x3:α3,∃x4:α4,p0 x0 x1 x2 x3 x4/\ p1 x0 x1 x2 x3 x4/\ p2 x0 x1 x2 x3 x4/\ p3 x0 x1 x2 x3 x4/\ p4 x0 x1 x2 x3 x4/\ p5 x0 x1 x2 x3 x4/\ p6 x0 x1 x2 x3 x4/\ p7 x0 x1 x2 x3 x4/\ p8 x0 x1 x2 x3 x4)(k:∀x0:α0,∀x1:α1,∀x2:α2,∀x3:α3,∀x4:α4,p0 x0 x1 x2 x3 x4->p1 x0 x1 x2 x3 x4->p2 x0 x1 x2 x3 x4->p3 x0 x1 x2 x3 x4->p4 x0 x1 x2 x3 x4->p5 x0 x1 x2 x3 x4->p6 x0 x1 x2 x3 x4->p7 x0 x1 x2 x3 x4->p8 x0 x1 x2 x3 x4->G):G:=by obtain⟨c0,c1,c2,c3,c4,c5,c6,c7,c8,c9,c10,c11,c12,c13⟩:=h;exact k c0 c1 c2 c3 c4 c5 c6 c7 c8 c9 c10 c11 c12 c13
theorem DE{α0:Sort _}{α1:Sort _}{α2:Sort _}{α3:Sort _}{α4:Sort _}{α5:Sort _}{α6:Sort _}{α7:Sort _}{α8:Sort _}{α9:Sort _}{p0:α0->α1->α2->α3->α4->α5->α6->α7->α8->α9->Prop}{p1:α0->α1->α2->α3->α4->α5->α6->α7->α8->α9->Prop}{p2:α0->α1->α2->α3->α4->α5->α6->α7->α8->α9->Prop}{p3:α0->α1->α2->α3->α4->α5->α6->α7->α8->α9->Prop}{p4:α0->α1->α2->α3->α4->α5->α6->α7->α8->α9->Prop}{p5:α0->α1->α2->α3->α4->α5->α6->α7->α8->α9->Prop}{p6:α0->α1->α2->α3->α4->α5->α6->α7->α8->α9->Prop}{p7:α0->α1->α2->α3->α4->α5->α6->α7->α8->α9->Prop}{p8:α0->α1->α2->α3->α4->α5->α6->α7->α8->α9->Prop}{G:Prop}(h:∃x0:α0,∃x1:α1,∃x2:α2,∃x3:α3,∃x4:α4,∃x5:α5,∃x6:α6,∃x7:α7,∃x8:α8,∃x9:α9,p0 x0 x1 x2 x3 x4 x5 x6 x7 x8 x9/\ p1 x0 x1 x2 x3 x4 x5 x6 x7 x8 x9/\ p2 x0 x1 x2 x3 x4 x5 x6 x7 x8 x9/\ p3 x0 x1 x2 x3 x4 x5 x6 x7 x8 x9/\ p4 x0 x1 x2 x3 x4 x5 x6 x7 x8 x9/\ p5 x0 x1 x2 x3 x4 x5 x6 x7 x8 x9/\ p6 x0 x1 x2 x3 x4 x5 x6 x7 x8 x9/\ p7 x0 x1 x2 x3 x4 x5 x6 x7 x8 x9/\ p8 x0 x1 x2 x3 x4 x5 x6 x7 x8 x9)(k:∀x0:α0,∀x1:α1,∀x2:α2,∀x3:α3,∀x4:α4,∀x5:α5,∀x6:α6,∀x7:α7,∀x8:α8,∀x9:α9,p0 x0 x1 x2 x3 x4 x5 x6 x7 x8 x9->p1 x0 x1 x2 x3 x4 x5 x6 x7 x8 x9->p2 x0 x1 x2 x3 x4 x5 x6 x7 x8 x9->p3 x0 x1 x2 x3 x4 x5 x6 x7 x8 x9->p4 x0 x1 x2 x3 x4 x5 x6 x7 x8 x9->p5 x0 x1 x2 x3 x4 x5 x6 x7 x8 x9->p6 x0 x1 x2 x3 x4 x5 x6 x7 x8 x9->p7 x0 x1 x2 x3 x4 x5 x6 x7 x8 x9->p8 x0 x1 x2 x3 x4 x5 x6 x7 x8 x9->G):G:=by obtain⟨c0,c1,c2,c3,c4,c5,c6,c7,c8,c9,c10,c11,c12,c13,c14,c15,c16,c17,c18⟩:=h;exact k c0 c1 c2 c3 c4 c5 c6 c7 c8 c9 c10 c11 c12 c13 c14 c15 c16 c17 c18
theorem lw{α0:Sort _}{α1:Sort _}{α2:Sort _}{α3:Sort _}{α4:Sort _}{α5:Sort _}{α6:Sort _}{α7:Sort _}{α8:Sort _}{α9:Sort _}{p0:α0->α1->α2->α3->α4->α5->α6->α7->α8->α9->Prop}{p1:α0->α1->α2->α3->α4->α5->α6->α7->α8->α9->Prop}{p2:α0->α1->α2->α3->α4->α5->α6->α7->α8->α9->Prop}{p3:α0->α1->α2->α3->α4->α5->α6->α7->α8->α9->Prop}{p4:α0->α1->α2->α3->α4->α5->α6->α7->α8->α9->Prop}{p5:α0->α1->α2->α3->α4->α5->α6->α7->α8->α9->Prop}{p6:α0->α1->α2->α3->α4->α5->α6->α7->α8->α9->Prop}{p7:α0->α1->α2->α3->α4->α5->α6->α7->α8->α9->Prop}{p8:α0->α1->α2->α3->α4->α5->α6->α7->α8->α9->Prop}{p9:α0->α1->α2->α3->α4->α5->α6->α7->α8->α9->Prop}{G:Prop}(h:∃x0:α0,∃x1:α1,∃x2:α2,∃x3:α3,∃x4:α4,∃x5:α5,∃x6:α6,∃x7:α7,∃x8:α8,∃x9:α9,p0 x0 x1 x2 x3 x4 x5 x6 x7 x8 x9/\ p1 x0 x1 x2 x3 x4 x5 x6 x7 x8 x9/\ p2 x0 x1 x2 x3 x4 x5 x6 x7 x8 x9/\ p3 x0 x1 x2 x3 x4 x5 x6 x7 x8 x9/\ p4 x0 x1 x2 x3 x4 x5 x6 x7 x8 x9/\ p5 x0 x1 x2 x3 x4 x5 x6 x7 x8 x9/\ p6 x0 x1 x2 x3 x4 x5 x6 x7 x8 x9/\ p7 x0 x1 x2 x3 x4 x5 x6 x7 x8 x9/\ p8 x0 x1 x2 x3 x4 x5 x6 x7 x8 x9/\ p9 x0 x1 x2 x3 x4 x5 x6 x7 x8 x9)(k:∀x0:α0,∀x1:α1,∀x2:α2,∀x3:α3,∀x4:α4,∀x5:α5,∀x6:α6,∀x7:α7,∀x8:α8,∀x9:α9,p0 x0 x1 x2 x3 x4 x5 x6 x7 x8 x9->p1 x0 x1 x2 x3 x4 x5 x6 x7 x8 x9->p2 x0 x1 x2 x3 x4 x5 x6 x7 x8 x9->p3 x0 x1 x2 x3 x4 x5 x6 x7 x8 x9->p4 x0 x1 x2 x3 x4 x5 x6 x7 x8 x9->p5 x0 x1 x2 x3 x4 x5 x6 x7 x8 x9->p6 x0 x1 x2 x3 x4 x5 x6 x7 x8 x9->p7 x0 x1 x2 x3 x4 x5 x6 x7 x8 x9->p8 x0 x1 x2 x3 x4 x5 x6 x7 x8 x9->p9 x0 x1 x2 x3 x4 x5 x6 x7 x8 x9->G):G:=by obtain⟨c0,c1,c2,c3,c4,c5,c6,c7,c8,c9,c10,c11,c12,c13,c14,c15,c16,c17,c18,c19⟩:=h;exact k c0 c1 c2 c3 c4 c5 c6 c7 c8 c9 c10 c11 c12 c13 c14 c15 c16 c17 c18 c19
theorem DF{α0:Sort _}{α1:Sort _}{α2:Sort _}{α3:Sort _}{α4:Sort _}{α5:Sort _}{α6:Sort _}{α7:Sort _}{α8:Sort _}{α9:Sort _}{p0:α0->α1->α2->α3->α4->α5->α6->α7->α8->α9->Prop}{p1:α0->α1->α2->α3->α4->α5->α6->α7->α8->α9->Prop}{p2:α0->α1->α2->α3->α4->α5->α6->α7->α8->α9->Prop}{p3:α0->α1->α2->α3->α4->α5->α6->α7->α8->α9->Prop}{p4:α0->α1->α2->α3->α4->α5->α6->α7->α8->α9->Prop}{p5:α0->α1->α2->α3->α4->α5->α6->α7->α8->α9->Prop}{p6:α0->α1->α2->α3->α4->α5->α6->α7->α8->α9->Prop}{p7:α0->α1->α2->α3->α4->α5->α6->α7->α8->α9->Prop}{p8:α0->α1->α2->α3->α4->α5->α6->α7->α8->α9->Prop}{p9:α0->α1->α2->α3->α4->α5->α6->α7->α8->α9->Prop}{p10:α0->α1->α2->α3->α4->α5->α6->α7->α8->α9->Prop}{G:Prop}(h:∃x0:α0,∃x1:α1,∃x2:α2,∃x3:α3,∃x4:α4,∃x5:α5,∃x6:α6,∃x7:α7,∃x8:α8,∃x9:α9,p0 x0 x1 x2 x3 x4 x5 x6 x7 x8 x9/\ p1 x0 x1 x2 x3 x4 x5 x6 x7 x8 x9/\ p2 x0 x1 x2 x3 x4 x5 x6 x7 x8 x9/\ p3 x0 x1 x2 x3 x4 x5 x6 x7 x8 x9/\ p4 x0 x1 x2 x3 x4 x5 x6 x7 x8 x9/\ p5 x0 x1 x2 x3 x4 x5 x6 x7 x8 x9/\ p6 x0 x1 x2 x3 x4 x5 x6 x7 x8 x9/\ p7 x0 x1 x2 x3 x4 x5 x6 x7 x8 x9/\ p8 x0 x1 x2 x3 x4 x5 x6 x7 x8 x9/\ p9 x0 x1 x2 x3 x4 x5 x6 x7 x8 x9/\ p10 x0 x1 x2 x3 x4 x5 x6 x7 x8 x9)(k:∀x0:α0,∀x1:α1,∀x2:α2,∀x3:α3,∀x4:α4,∀x5:α5,∀x6:α6,∀x7:α7,∀x8:α8,∀x9:α9,p0 x0 x1 x2 x3 x4 x5 x6 x7 x8 x9->p1 x0 x1 x2 x3 x4 x5 x6 x7 x8 x9->p2 x0 x1 x2 x3 x4 x5 x6 x7 x8 x9->p3 x0 x1 x2 x3 x4 x5 x6 x7 x8 x9->p4 x0 x1 x2 x3 x4 x5 x6 x7 x8 x9->p5 x0 x1 x2 x3 x4 x5 x6 x7 x8 x9->p6 x0 x1 x2 x3 x4 x5 x6 x7 x8 x9->p7 x0 x1 x2 x3 x4 x5 x6 x7 x8 x9->p8 x0 x1 x2 x3 x4 x5 x6 x7 x8 x9->p9 x0 x1 x2 x3 x4 x5 x6 x7 x8 x9->p10 x0 x1 x2 x3 x4 x5 x6 x7 x8 x9->G):G:=by obtain⟨c0,c1,c2,c3,c4,c5,c6,c7,c8,c9,c10,c11,c12,c13,c14,c15,c16,c17,c18,c19,c20⟩:=h;exact k c0 c1 c2 c3 c4 c5 c6 c7 c8 c9 c10 c11 c12 c13 c14 c15 c16 c17 c18 c19 c20
theorem DG{α0:Sort _}{α1:Sort _}{α2:Sort _}{α3:Sort _}{α4:Sort _}{α5:Sort _}{α6:Sort _}{α7:Sort _}{α8:Sort _}{α9:Sort _}{α10:Sort _}{α11:Sort _}{α12:Sort _}{α13:Sort _}{α14:Sort _}{α15:Sort _}{α16:Sort _}{p0:α0->α1->α2->α3->α4->α5->α6->α7->α8->α9->α10->α11->α12->α13->α14->α15->α16->Prop}{p1:α0->α1->α2->α3->α4->α5->α6->α7->α8->α9->α10->α11->α12->α13->α14->α15->α16->Prop}{p2:α0->α1->α2->α3->α4->α5->α6->α7->α8->α9->α10->α11->α12->α13->α14->α15->α16->Prop}{p3:α0->α1->α2->α3->α4->α5->α6->α7->α8->α9->α10->α11->α12->α13->α14->α15->α16->Prop}{G:Prop}(h:∃x0:α0,∃x1:α1,∃x2:α2,∃x3:α3,∃x4:α4,∃x5:α5,∃x6:α6,∃x7:α7,∃x8:α8,∃x9:α9,∃x10:α10,∃x11:α11,∃x12:α12,∃x13:α13,∃x14:α14,∃x15:α15,∃x16:α16,p0 x0 x1 x2 x3 x4 x5 x6 x7 x8 x9 x10 x11 x12 x13 x14 x15 x16/\ p1 x0 x1 x2 x3 x4 x5 x6 x7 x8 x9 x10 x11 x12 x13 x14 x15 x16/\ p2 x0 x1 x2 x3 x4 x5 x6 x7 x8 x9 x10 x11 x12 x13 x14 x15 x16/\ p3 x0 x1 x2 x3 x4 x5 x6 x7 x8 x9 x10 x11 x12 x13 x14 x15 x16)(k:∀x0:α0,∀x1:α1,∀x2:α2,∀x3:α3,∀x4:α4,∀x5:α5,∀x6:α6,∀x7:α7,∀x8:α8,∀x9:α9,∀x10:α10,∀x11:α11,∀x12:α12,∀x13:α13,∀x14:α14,∀x15:α15,∀x16:α16,p0 x0 x1 x2 x3 x4 x5 x6 x7 x8 x9 x10 x11 x12 x13 x14 x15 x16->p1 x0 x1 x2 x3 x4 x5 x6 x7 x8 x9 x10 x11 x12 x13 x14 x15 x16->p2 x0 x1 x2 x3 x4 x5 x6 x7 x8 x9 x10 x11 x12 x13 x14 x15 x16->p3 x0 x1 x2 x3 x4 x5 x6 x7 x8 x9 x10 x11 x12 x13 x14 x15 x16->G):G:=by obtain⟨c0,c1,c2,c3,c4,c5,c6,c7,c8,c9,c10,c11,c12,c13,c14,c15,c16,c17,c18,c19,c20⟩:=h;exact k c0 c1 c2 c3 c4 c5 c6 c7 c8 c9 c10 c11 c12 c13 c14 c15 c16 c17 c18 c19 c20
theorem DH{α0:Sort _}{α1:Sort _}{α2:Sort _}{α3:Sort _}{p0:α0->α1->α2->α3->Prop}{p1:α0->α1->α2->α3->Prop}{p2:α0->α1->α2->α3->Prop}{G:Prop}(h:∃x0:α0,∃x1:α1,∃x2:α2,∃x3:α3,p0 x0 x1 x2 x3/\ p1 x0 x1 x2 x3/\ p2 x0 x1 x2 x3)(k:∀x0:α0,∀x1:α1,∀x2:α2,∀x3:α3,p0 x0 x1 x2 x3->p1 x0 x1 x2 x3->p2 x0 x1 x2 x3->G):G:=by obtain⟨c0,c1,c2,c3,c4,c5,c6⟩:=h;exact k c0 c1 c2 c3 c4 c5 c6
theorem PA{α0:Sort _}{α1:Sort _}{α2:Sort _}{α3:Sort _}{p0:α0->α1->α2->α3->Prop}{p1:α0->α1->α2->α3->Prop}{p2:α0->α1->α2->α3->Prop}{p3:α0->α1->α2->α3->Prop}{p4:α0->α1->α2->α3->Prop}{p5:α0->α1->α2->α3->Prop}{p6:α0->α1->α2->α3->Prop}{p7:α0->α1->α2->α3->Prop}{p8:α0->α1->α2->α3->Prop}{G:Prop}(h:∃x0:α0,∃x1:α1,∃x2:α2,∃x3:α3,p0 x0 x1 x2 x3/\ p1 x0 x1 x2 x3/\ p2 x0 x1 x2 x3/\ p3 x0 x1 x2 x3/\ p4 x0 x1 x2 x3/\ p5 x0 x1 x2 x3/\ p6 x0 x1 x2 x3/\ p7 x0 x1 x2 x3/\ p8 x0 x1 x2 x3)(k:∀x0:α0,∀x1:α1,∀x2:α2,∀x3:α3,p0 x0 x1 x2 x3->p1 x0 x1 x2 x3->p2 x0 x1 x2 x3->p3 x0 x1 x2 x3->p4 x0 x1 x2 x3->p5 x0 x1 x2 x3->p6 x0 x1 x2 x3->p7 x0 x1 x2 x3->p8 x0 x1 x2 x3->G):G:=by obtain⟨c0,c1,c2,c3,c4,c5,c6,c7,c8,c9,c10,c11,c12⟩:=h;exact k c0 c1 c2 c3 c4 c5 c6 c7 c8 c9 c10 c11 c12
theorem PB{α0:Sort _}{α1:Sort _}{p0:α0->α1->Prop}{p1:α0->α1->Prop}{p2:α0->α1->Prop}{p3:α0->α1->Prop}{p4:α0->α1->Prop}{p5:α0->α1->Prop}{p6:α0->α1->Prop}{G:Prop}(h:∃x0:α0,∃x1:α1,p0 x0 x1/\ p1 x0 x1/\ p2 x0 x1/\ p3 x0 x1/\ p4 x0 x1/\ p5 x0 x1/\ p6 x0 x1)(k:∀x0:α0,∀x1:α1,p0 x0 x1->p1 x0 x1->p2 x0 x1->p3 x0 x1->p4 x0 x1->p5 x0 x1->p6 x0 x1->G):G:=by obtain⟨c0,c1,c2,c3,c4,c5,c6,c7,c8⟩:=h;exact k c0 c1 c2 c3 c4 c5 c6 c7 c8
theorem PC{α0:Sort _}{α1:Sort _}{α2:Sort _}{α3:Sort _}{p0:α0->α1->α2->α3->Prop}{p1:α0->α1->α2->α3->Prop}{p2:α0->α1->α2->α3->Prop}{p3:α0->α1->α2->α3->Prop}{p4:α0->α1->α2->α3->Prop}{p5:α0->α1->α2->α3->Prop}{p6:α0->α1->α2->α3->Prop}{G:Prop}(h:∃x0:α0,∃x1:α1,∃x2:α2,∃x3:α3,p0 x0 x1 x2 x3/\ p1 x0 x1 x2 x3/\ p2 x0 x1 x2 x3/\ p3 x0 x1 x2 x3/\ p4 x0 x1 x2 x3/\ p5 x0 x1 x2 x3/\ p6 x0 x1 x2 x3)(k:∀x0:α0,∀x1:α1,∀x2:α2,∀x3:α3,p0 x0 x1 x2 x3->p1 x0 x1 x2 x3->p2 x0 x1 x2 x3->p3 x0 x1 x2 x3->p4 x0 x1 x2 x3->p5 x0 x1 x2 x3->p6 x0 x1 x2 x3->G):G:=by obtain⟨c0,c1,c2,c3,c4,c5,c6,c7,c8,c9,c10⟩:=h;exact k c0 c1 c2 c3 c4 c5 c6 c7 c8 c9 c10
theorem PD{α0:Sort _}{α1:Sort _}{α2:Sort _}{p0:α0->α1->α2->Prop}{p1:α0->α1->α2->Prop}{p2:α0->α1->α2->Prop}{p3:α0->α1->α2->Prop}{p4:α0->α1->α2->Prop}{G:Prop}(h:∃x0:α0,∃x1:α1,∃x2:α2,p0 x0 x1 x2/\ p1 x0 x1 x2/\ p2 x0 x1 x2/\ p3 x0 x1 x2/\ p4 x0 x1 x2)(k:∀x0:α0,∀x1:α1,∀x2:α2,p0 x0 x1 x2->p1 x0 x1 x2->p2 x0 x1 x2->p3 x0 x1 x2->p4 x0 x1 x2->G):G:=by obtain⟨c0,c1,c2,c3,c4,c5,c6,c7⟩:=h;exact k c0 c1 c2 c3 c4 c5 c6 c7
theorem DI{α0:Sort _}{p0:Prop}{p1:α0->Prop}{G:Prop}(h:p0/\ (∃x0:α0,p1 x0))(k:p0->∀x0:α0,p1 x0->G):G:=by obtain⟨c0,c1,c2⟩:=h;exact k c0 c1 c2
theorem PE{α0:Sort _}{α1:Sort _}{α2:Sort _}{α3:Sort _}{α4:Sort _}{α5:Sort _}{α6:Sort _}{α7:Sort _}{p0:α0->α1->α2->α3->α4->α5->α6->α7->Prop}{p1:α0->α1->α2->α3->α4->α5->α6->α7->Prop}{p2:α0->α1->α2->α3->α4->α5->α6->α7->Prop}{p3:α0->α1->α2->α3->α4->α5->α6->α7->Prop}{p4:α0->α1->α2->α3->α4->α5->α6->α7->Prop}{p5:α0->α1->α2->α3->α4->α5->α6->α7->Prop}{p6:α0->α1->α2->α3->α4->α5->α6->α7->Prop}{p7:α0->α1->α2->α3->α4->α5->α6->α7->Prop}{p8:α0->α1->α2->α3->α4->α5->α6->α7->Prop}{G:Prop}(h:∃x0:α0,∃x1:α1,∃x2:α2,∃x3:α3,∃x4:α4,∃x5:α5,∃x6:α6,∃x7:α7,p0 x0 x1 x2 x3 x4 x5 x6 x7/\ p1 x0 x1 x2 x3 x4 x5 x6 x7/\ p2 x0 x1 x2 x3 x4 x5 x6 x7/\ p3 x0 x1 x2 x3 x4 x5 x6 x7/\ p4 x0 x1 x2 x3 x4 x5 x6 x7/\ p5 x0 x1 x2 x3 x4 x5 x6 x7/\ p6 x0 x1 x2 x3 x4 x5 x6 x7/\ p7 x0 x1 x2 x3 x4 x5 x6 x7/\ p8 x0 x1 x2 x3 x4 x5 x6 x7)(k:∀x0:α0,∀x1:α1,∀x2:α2,∀x3:α3,∀x4:α4,∀x5:α5,∀x6:α6,∀x7:α7,p0 x0 x1 x2 x3 x4 x5 x6 x7->p1 x0 x1 x2 x3 x4 x5 x6 x7->p2 x0 x1 x2 x3 x4 x5 x6 x7->p3 x0 x1 x2 x3 x4 x5 x6 x7->p4 x0 x1 x2 x3 x4 x5 x6 x7->p5 x0 x1 x2 x3 x4 x5 x6 x7->p6 x0 x1 x2 x3 x4 x5 x6 x7->p7 x0 x1 x2 x3 x4 x5 x6 x7->p8 x0 x1 x2 x3 x4 x5 x6 x7->G):G:=by obtain⟨c0,c1,c2,c3,c4,c5,c6,c7,c8,c9,c10,c11,c12,c13,c14,c15,c16⟩:=h;exact k c0 c1 c2 c3 c4 c5 c6 c7 c8 c9 c10 c11 c12 c13 c14 c15 c16
theorem PF{α0:Sort _}{α1:Sort _}{α2:Sort _}{p0:α0->α1->α2->Prop}{p1:α0->α1->α2->Prop}{p2:α0->α1->α2->Prop}{p3:α0->α1->α2->Prop}{p4:α0->α1->α2->Prop}{p5:α0->α1->α2->Prop}{p6:α0->α1->α2->Prop}{p7:α0->α1->α2->Prop}{G:Prop}(h:∃x0:α0,∃x1:α1,∃x2:α2,p0 x0 x1 x2/\ p1 x0 x1 x2/\ p2 x0 x1 x2/\ p3 x0 x1 x2/\ p4 x0 x1 x2/\ p5 x0 x1 x2/\ p6 x0 x1 x2/\ p7 x0 x1 x2)(k:∀x0:α0,∀x1:α1,∀x2:α2,p0 x0 x1 x2->p1 x0 x1 x2->p2 x0 x1 x2->p3 x0 x1 x2->p4 x0 x1 x2->p5 x0 x1 x2->p6 x0 x1 x2->p7 x0 x1 x2->G):G:=by obtain⟨c0,c1,c2,c3,c4,c5,c6,c7,c8,c9,c10⟩:=h;exact k c0 c1 c2 c3 c4 c5 c6 c7 c8 c9 c10
theorem DJ{p0:Prop}{p1:Prop}{p2:Prop}{p3:Prop}{p4:Prop}{p5:Prop}{p6:Prop}{G:Prop}(h:p0/\ p1/\ p2/\ p3/\ p4/\ p5/\ p6)(k:p0->p1->p2->p3->p4->p5->p6->G):G:=by obtain⟨c0,c1,c2,c3,c4,c5,c6⟩:=h;exact k c0 c1 c2 c3 c4 c5 c6
theorem PG{α0:Sort _}{α1:Sort _}{α2:Sort _}{α3:Sort _}{p0:α0->α1->α2->Prop}{p1:α0->α1->α2->Prop}{p2:α0->α1->α2->Prop}{p3:α0->α1->α2->Prop}{p4:α0->α1->α2->Prop}{p5:α0->α1->α2->Prop}{p6:α0->α1->α2->Prop}{p7:α0->α1->α2->α3->Prop}{G:Prop}(h:∃x0:α0,∃x1:α1,∃x2:α2,p0 x0 x1 x2/\ p1 x0 x1 x2/\ p2 x0 x1 x2/\ p3 x0 x1 x2/\ p4 x0 x1 x2/\ p5 x0 x1 x2/\ p6 x0 x1 x2/\ (∃x3:α3,p7 x0 x1 x2 x3))(k:∀x0:α0,∀x1:α1,∀x2:α2,p0 x0 x1 x2->p1 x0 x1 x2->p2 x0 x1 x2->p3 x0 x1 x2->p4 x0 x1 x2->p5 x0 x1 x2->p6 x0 x1 x2->∀x3:α3,p7 x0 x1 x2 x3->G):G:=by obtain⟨c0,c1,c2,c3,c4,c5,c6,c7,c8,c9,c10,c11⟩:=h;exact k c0 c1 c2 c3 c4 c5 c6 c7 c8 c9 c10 c11
theorem rN{a b c d:Nat}(h:a+c<=d)(e:db b c=true):a+b<=d:=ao (ey (bz e) _) h
theorem wE{a n k c j:Nat}(h:a+(n+k)<=c)(e:db j k=true):a+n+j<=c:=ao (ao (ey (bz e) (a+n)) (dq (je a n k))) h
theorem lz{a n k c j:Nat}(h:a+(n+k)<=c)(e:db j k=true):a+j+n<=c:=ao (dq (lc a j n)) (wE h e)
theorem wF{a n k c d:Nat}(h:a+10*(n+k)<=c)(e:db d (10*k)=true):a+d+10*n<=c:=lz (n:=10*n) (k:=10*k) (ao (dq (congrArg (a+ ·) (Nat.mul_add 10 n k).symm)) h) e
theorem wG{a n c j k:Nat}(h:a+n<=c)(g:k<=n)(e:db j k=true):a+j<=c:=ao (ey (ao (bz e) g) a) h
theorem jr{a n c d k:Nat}(h:a+10*n<=c)(g:k<=n)(e:db d (10*k)=true):a+d<=c:=ao (ey (ao (bz e) (lf 10 g)) a) h
theorem rP{a n c k:Nat}(h:a+n<=c)(g:k<=n):a+k<=c:=ao (ey g a) h
theorem rQ{a n c k:Nat}(h:a+10*n<=c)(g:k<=n):a+10*k<=c:=ao (ey (lf 10 g) a) h
theorem aV{a b c:Nat}(h:a<=b)(e:db b c=true):a<=c:=ao h (bz e)
theorem lA{a b c:Nat}(h:a<=b)(e:db (b+1) c=true):a<c:=dt h (bz e)
theorem js{a b c k:Nat}(h:a<=b)(e:db (b+k) c=true):a+k<=c:=ao (q0 h k) (bz e)
theorem mL{a b c k:Nat}(h:a<=b)(e:db (k+b) c=true):k+a<=c:=ao (ey h k) (bz e)
theorem ff{a b c d:Nat}(h:a<=b)(g:b<=c)(e:db c d=true):a<=d:=ao h (ao g (bz e))
theorem rR{a b c d:Nat}(h:a+b<=c)(e:db c d=true):a<=d:=ao (bk a b) (ao h (bz e))
theorem rS{a b c d:Nat}(h:a+b<=c)(e:db c d=true):b<=d:=ao (cV b a) (ao h (bz e))
theorem DK{a b c d f:Nat}(h:a+b+f<=c)(e:db c d=true):a<=d:=rR (rR h (OT (bO c))) e
theorem DL{a b c d f:Nat}(h:a+b+f<=c)(e:db c d=true):b<=d:=rS (rR h (OT (bO c))) e
theorem mM{a b c d f:Nat}(h:a+b<=c)(g:c<=d)(e:db d f=true):a<=f:=ao (bk a b) (ao h (ao g (bz e)))
theorem fg{k n j:Nat}(h:k<=n)(e:db (j+1) k=true):j<=n-1:=OU (ao (bz e) h)
theorem rU{n b k:Nat}(h:n+1+b<=k):n+b<=k-1:=OU (ao (dq (lc n b 1)) h)
theorem rV{n L:Nat}(h:L<2*(n+1))(g:2<=L):L-2<2*n:=Nat.sub_lt_right_of_lt_add g h
theorem rW{n s t:Nat}(g:s+2<=t)(h:t<2*(n+1)):s<2*n:=Nat.lt_of_add_lt_add_right (n:=2) (dt g h)
theorem oW{n i:Nat}(h:i<n):n+1-(i+1)<n+1-i:=vB (lg h) (gh i)
theorem mO{n i k:Nat}(h:n-i=k+1):n-(i+1)=k:=(Nat.sub_add_eq n i 1).trans (congrArg (· -1) h)
theorem rX{a b n:Nat}(h:a-b=n+1):b<a:=Nat.lt_of_sub_eq_succ h
theorem DM{k:Nat}(h:0<k):k=k-1+1:=(CJ h).symm
theorem rY{k a:Nat}(h:a<k):k=k-1+1:=(CJ (dt (dZ a) h)).symm
theorem DN{i:Int}{n:Int}{m:Int}(h:i<=n)(e:decide (n<m)=true):i<m:=oi h (of_decide_eq_true e)
theorem DO{i:Int}{n:Int}{m:Int}(h:i<n)(e:decide (n<=m)=true):i<=m:=jf (q7 h) (of_decide_eq_true e)
theorem oX{i:Int}{n:Int}{m:Int}(h:i<=n)(e:decide (m<=i)=true):m<=n:=jf (of_decide_eq_true e) h
theorem iN{a b c:Nat}(h:a<=b):a<=b+c:=ao h (bk _ _)
theorem lB{a b c:Nat}(h:a<=b):a<=c+b:=ao h (cV _ _)
theorem lC{a b c:Nat}(h:a=b+c):b<=a:=h▸bk b c
theorem mP{n i:Nat}(h:i<=n)(g:¬i<n):i=n:=Nat.le_antisymm h (Nat.le_of_not_lt g)
theorem rZ{n i:Nat}(h:i<n):n-i=n-i-1+1:=(CJ (Nat.sub_pos_of_lt h)).symm
theorem r7{a b c:Nat}(h:b=a+1)(g:c=a+2):a≠b/\ a≠c/\ b≠c:=by subst h;subst g;exact⟨eZ (gh a),eZ (lg (gh a)),eZ (gh (a+1))⟩
theorem DP{a n k c x y z w:Nat}(h:a+10*(n+k)<=c)(e:db (x+y+z+w) (10*k)=true):a+x+y+z+w+10*n<=c:=ao (dq (congrArg (· +10*n) (by rw[je,je,je,<-je x,<-je (x+y)]:a+x+y+z+w=a+(x+y+z+w)))) (wF h e)
theorem r8{a b c d:Nat}(h:a+b+c<=d):a+c+b<=d:=ao (dq (lc a c b)) h
theorem DQ{a b c d k:Nat}(h:a+b+c<=d)(e:db k b=true):a+k+c<=d:=ao (q0 (ey (bz e) a) c) h
theorem DR{a n c d k:Nat}(h:a+n<=c)(g:d<k)(e:db (c+j) d=true):a+j<k:=dt (ao (q0 (ao (bk a n) h) j) (bz e)) g
theorem PH{n q k:Nat}(h:q+1<=n)(e:db 1 k=true):n-(q+k)<n-q:=vB h (CK (bz e))
theorem DS{n p q m:Nat}(h:q<p)(g:p<=n)(f:n-q<m+1):n-p<m:=eN (vB (eN h g) h) (Nat.le_of_lt_succ f)
theorem PI{n p q:Nat}(h:q+1<p)(g:p+1<=n):n-(p+1)<n-q:=have z:=lg (q8 h);vB (eN z g) z
theorem sd{n i:Nat}(h:i<=n)(g:n-i=0):i=n:=Nat.le_antisymm h (Nat.le_of_sub_eq_zero g)
theorem DT{n i:Nat}(h:i<=n):i+(n-i)=n:=OV h
theorem DU{n:Nat}(h:1<=n):n-1≠n:=eZ (Nat.sub_lt h (j7 0))
theorem DV{n L j:Nat}(h:n<=L)(e:db L k=true):n-j<=k:=ao (ie n j) (ao h (bz e))
theorem wH{b c:Nat}(g:c=b+2){x:Nat}(f:x<b):x≠c:=λq=>jg _ (vC (vC (q▸f) (gh b)) (g▸gh (b+1)))
theorem DW{c:Nat}(h:48<=c/\ c<=57):c=48 \/c=49 \/c=50 \/c=51 \/c=52 \/c=53 \/c=54 \/c=55 \/c=56 \/c=57:=(by decide:∀c,c<58->48<=c->(c=48 \/c=49 \/c=50 \/c=51 \/c=52 \/c=53 \/c=54 \/c=55 \/c=56 \/c=57)) c (q9 h.2) h.1
theorem DX{c:Nat}(h:48<=c/\ c<=57):c≠91/\ c≠93/\ c≠40/\ c≠41/\ c≠44:=(by decide:∀c,c<58->48<=c->c≠91/\ c≠93/\ c≠40/\ c≠41/\ c≠44) c (q9 h.2) h.1
theorem DY{c:Nat}(h:48<=c/\ c<=57):((c-48:Nat):Int)=(c:Int)-48:=Int.ofNat_sub h.1
theorem DZ{i k:Int}{n:Nat}(h:0<=i)(g:i<k)(f:k=(n:Int)):i.toNat<n:=(vD h).mpr (f▸g)
theorem D0{i:Int}(h:0<=i)(g:¬0<i):0=i:=Int.le_antisymm h (vE.mp g)
theorem kl{a b c:Nat}(h:a=b)(g:b<=c):a<=c:=h▸g
theorem se{a b c d:Nat}(h:a=b)(g:b<=c)(e:db c d=true):a<=d:=h▸ao g (bz e)
theorem bl{α:Type _}{β:Type _}{x:Option α}{f:α->Option β}{b:β}{G:Prop}(h:x.bind f=some b)(k:∀a,x=some a->f a=some b->G):G:=by
 cases x with
 |none=>nomatch h
 |some a=>exact k a rfl h
theorem eR{α:Type _}{β:Type _}{x:Option α}{f:α->β}{b:β}{G:Prop}(h:x.map f=some b)(k:∀a,x=some a->f a=b->G):G:=by
 cases x with
 |none=>nomatch h
 |some a=>exact k a rfl (vF h)
theorem gD{I:PySem.Addr}{h h':PySem.Heap}(k:∀b o,b∉[I]->h.get? b=some o->h'.get? b=some o)(b:PySem.Addr)(o:PySem.Obj)(hb:b≠I)(e:h.get? b=some o):h'.get? b=some o:=k b o (λq=>hb (du.mp q)) e
theorem D1{a b c:Nat}(h:a=b)(g:c<=b):c<=a:=h▸g
theorem zl{a b:Nat}{c:Int}(h:a<=b)(e:(b:Int)<c):(a:Int)<c:=oi (oj.mpr h) e
theorem z1(m:Nat):(-1:Int)+((m+1:Nat):Int)=(m:Int):=(ol (-1) ((m:Int)+1)).trans (Int.add_neg_cancel_right _ _)
theorem zm{n:Nat}(h:0<n):(-1:Int)+(n:Int)=((n-1:Nat):Int):=by
 cases n with
 |zero=>exact absurd h (jg 0)
 |succ m=>exact z1 m
theorem D2{n:Nat}(h:1<=n):max ((-1:Int)+(n:Int)) 0=((n-1:Nat):Int):=(congrArg (λz=>max z (0:Int)) (zm h)).trans (Int.max_eq_left (rc _))
theorem wI{n:Nat}(h:0<n): -(n:Int)<= -1:=Int.neg_le_neg (oj.mpr h)
theorem si{i:Int}{n k:Nat}(e:(if i<0 then i+n else i)=(k:Int))(l:k<n):PySem.seqIndex? i n=some k:=by
 unfold PySem.seqIndex?
 rw[e]
 exact if_pos ((aI _ _).mpr ⟨decide_eq_true (rc k),decide_eq_true (re.mpr l)⟩)
theorem jt(a n:Nat):max (0:Int) (min (if(a:Int)<0 then(a:Int)+n else a) n)=((min a n:Nat):Int):=by
 rw[if_neg (vE.mpr (rc a)),<-Lean.Omega.Int.ofNat_min]
 exact Int.max_eq_right (rc _)
theorem D3{a b n:Nat}(h:b-min a n=n)(g:b<=n)(f:¬n=0):a=0:=by
 cases a with
 |zero=>rfl
 |succ a=>exact absurd h (eZ (eN (Nat.sub_lt (Nat.pos_of_ne_zero λz=>f (h.symm.trans (by rw[z,Nat.zero_sub]))) (Nat.lt_min.mpr ⟨j7 a,Nat.pos_of_ne_zero f⟩)) g))
theorem D4(n:Nat):(if(0:Int)<n then(n:Int)-0-1+1 else 0).toNat=n:=by
 cases n with
 |zero=>rfl
 |succ n=>
  refine(congrArg Int.toNat (if_pos (re.mpr (j7 n)))).trans ?_
  rw[vG,Int.sub_add_cancel];rfl
theorem wJ{s b c x:Nat}(z:b=s+1)(g:c=s+2)(h:x<b):x≠c:=eZ (vC (z▸h) (g▸gh (s+1)))
theorem wK{t a x p q L:Nat}(e:t=a+x)(g:x<=q)(h:a+(p+q)<=L):t+p<=L:=e▸ao (ao (dq (je a x p)) (ey (ao (dq (om x p)) (ey g p)) a)) h
theorem D5{t a x p q L:Nat}(e:t=a+x)(g:x<=q)(h:a+(p+q)<=L):t<=L:=ao (bk t p) (wK e g h)
theorem wL{i m n:Nat}(h:i<n)(e:n-(i+1)=m):i+m+1=n:=e▸(lc i _ 1).trans (OV h)
theorem D6{i j n:Nat}(h:i<n)(e:j+(n-i-1)+1=n):j=i:=OW (OW (e.trans (wL h (Nat.sub_add_eq n i 1)).symm))
theorem wM{a j k c:Nat}(h:a+k<c)(e:db j k=true):a+j<c:=dt (ey (bz e) a) h
theorem sj{a b c:Nat}(z:b=a+2)(e:b=c):a<=c:=e▸z▸bk a 2
theorem oY{a b c:Nat}(z:b=a+2)(e:b=c):a+1<c:=e▸z▸gh (a+1)
theorem D7{i:Int}{n:Nat}(h:0<=i)(g:i<=n):i.natAbs<=n:=oj.mp (jf (Int.le_of_eq (Int.natAbs_of_nonneg h)) g)
end
section
inductive aY where
 |tup|bas
 deriving DecidableEq
inductive PV where
 |none
 |bool (b:Bool)
 |int (i:Int)
 |str (s:List Nat)
 |tuple (xs:List PV)
 |list (xs:List PV)
 |inst (c:aY) (fs:List (Str×PV))
inductive XC where
 |parse|value|abi
 deriving DecidableEq
inductive Res(α:Type) where
 |ok (a:α)
 |exc (c:XC)
 |stuck
noncomputable def Res.bind{α β:Type}(r:Res α)(f:α->Res β):Res β:=match r with
 | .ok a=>f a
 | .exc c=> .exc c
 | .stuck=> .stuck
theorem eF{α β:Type}(a:α)(f:α->Res β):(Res.ok a).bind f=f a:=rfl
theorem wN{α β:Type}(c:XC)(f:α->Res β):(Res.exc c).bind f= .exc c:=rfl
theorem wO{α β:Type}(f:α->Res β):(Res.stuck:Res α).bind f= .stuck:=rfl
noncomputable def aE{α:Type}:Option α->Res α
 |some a=> .ok a
 |none=> .stuck
theorem mQ{α:Type}(a:α):aE (some a)= .ok a:=rfl
theorem PJ{α:Type}:aE (none:Option α)= .stuck:=rfl
theorem al{α:Type}{r:α}{P:Prop}(e:(none:Option α)=some r):P:=by cases e
theorem aq{α:Type}{a r:α}(e:some a=some r):a=r:=by cases e;rfl
theorem de{α:Type}{a b:α}(h:Res.ok a=Res.ok b):a=b:=by cases h;rfl
theorem iq{α:Type}{a:α}{P:Prop}(h:Res.stuck=Res.ok a):P:=by cases h
theorem ju{α:Type}{c:XC}{a:α}{P:Prop}(h:Res.exc c=Res.ok a):P:=by cases h
theorem D8{α:Type}{c:XC}{a:α}{P:Prop}(h:Res.ok a=Res.exc c):P:=by cases h
theorem bV{P:Prop}(h:false=true):P:=by cases h
theorem km{P:Prop}(h:true=false):P:=by cases h
theorem lD{α:Type}{a:α}{P:Prop}(h:some a=none):P:=by cases h
theorem mR{α:Type}{a:α}{l:List α}{P:Prop}(h:a::l=[]):P:=by cases h
theorem sk{α:Type}{a:α}{l:List α}{P:Prop}(h:[]=a::l):P:=by cases h
theorem PK{a b}{P:Prop}(h:Data.fields a=Data.dict b):P:=by cases h
theorem ei{a b:Bool}(h:(a&&b)=true):a=true/\ b=true:=by rwa [aI]at h
theorem PL{a b}{P:Prop}(h:Data.seq a=Data.dict b):P:=by cases h
noncomputable def fh{α:Type}(l:List α):Option α:=match l with
 |[]=>none
 |a::r=>if r.isEmpty=true then some a else none
theorem gX{α:Type}{l:List α}{a:α}(h:fh l=some a):l=[a]:=by
 cases l with
 |nil=>exact al h
 |cons b r=>
  by_cases q:r.isEmpty=true
  ·rw[gR.mp q]at h ⊢;obtain rfl:=aq h;rfl
  ·exact al ((if_neg q).symm.trans h)
noncomputable def two{α:Type}(l:List α):Option (α×α):=match l with
 |[]=>none
 |a::r=>(fh r).map λb=>(a,b)
theorem oZ{α:Type}{l:List α}{q:α×α}(h:two l=some q):l=[q.1,q.2]:=by
 cases l with
 |nil=>exact al h
 |cons a r=>
  refine eR h λb hb h=> ?_
  rw[gX hb,<-h]
noncomputable def mS(e:ai):Option jh:=if h:e.ctorIdx=19 then some (OX e h λc ø ø=>c)else none
theorem sm{e:ai}{c:jh}(h:mS e=some c):∃k p,e= .Constant c k p:=by
 by_cases q:e.ctorIdx=19
 ·obtain⟨c',k,p,rfl⟩:∃c k p,e= .Constant c k p:=OX e q λc k p=>⟨c,k,p,rfl⟩
  obtain rfl:=aq h;exact⟨k,p,rfl⟩
 ·exact al ((dif_neg q).symm.trans h)
noncomputable def gY(e:ai):Option (Str×ax):=if h:e.ctorIdx=23 then some (OY e h λx p=>(x,p))else none
theorem lE{e:ai}{q:Str×ax}(h:gY e=some q):e= .Name q.1 q.2:=by
 by_cases k:e.ctorIdx=23
 ·obtain⟨x,p,rfl⟩:∃x p,e= .Name x p:=OY e k λx p=>⟨x,p,rfl⟩
  obtain rfl:=aq h;rfl
 ·exact al ((dif_neg k).symm.trans h)
noncomputable def kn(e:ai):Option (List ai):=if h:e.ctorIdx=25 then some (OZ e h λes ø ø=>es)else none
theorem sq{e:ai}{es:List ai}(h:kn e=some es):∃k p,e= .Tuple es k p:=by
 by_cases q:e.ctorIdx=25
 ·obtain⟨c',k,p,rfl⟩:∃c k p,e= .Tuple c k p:=OZ e q λc k p=>⟨c,k,p,rfl⟩
  obtain rfl:=aq h;exact⟨k,p,rfl⟩
 ·exact al ((dif_neg q).symm.trans h)
noncomputable def wP(e:ai):Option (ai×List e6×List ai):=if h:e.ctorIdx=15 then some (O0 e h λl ops rs ø=>(l,ops,rs))else none
theorem D9{e:ai}{q}(h:wP e=some q):∃p,e= .Compare q.1 q.2.1 q.2.2 p:=by
 by_cases k:e.ctorIdx=15
 ·obtain⟨l,ops,rs,p,rfl⟩:∃l ops rs p,e= .Compare l ops rs p:=O0 e k λl ops rs p=>⟨l,ops,rs,p,rfl⟩
  obtain rfl:=aq h;exact⟨p,rfl⟩
 ·exact al ((dif_neg k).symm.trans h)
noncomputable def o0(e:ai):Option (ai×List ai×List Keyword):=if h:e.ctorIdx=16 then some (O1 e h λf as ks ø=>(f,as,ks))else none
theorem wQ{e:ai}{q}(h:o0 e=some q):∃p,e= .Call q.1 q.2.1 q.2.2 p:=by
 by_cases k:e.ctorIdx=16
 ·obtain⟨f,as,ks,p,rfl⟩:∃f as ks p,e= .Call f as ks p:=O1 e k λf as ks p=>⟨f,as,ks,p,rfl⟩
  obtain rfl:=aq h;exact⟨p,rfl⟩
 ·exact al ((dif_neg k).symm.trans h)
noncomputable def o4(e:ai):Option (ai×Str×ax):=if h:e.ctorIdx=20 then some (vH e h λo a p=>(o,a,p))else none
theorem D'{e:ai}{q}(h:o4 e=some q):e= .Attribute q.1 q.2.1 q.2.2:=by
 by_cases k:e.ctorIdx=20
 ·obtain⟨o,a,p,rfl⟩:∃o a p,e= .Attribute o a p:=vH e k λo a p=>⟨o,a,p,rfl⟩
  obtain rfl:=aq h;rfl
 ·exact al ((dif_neg k).symm.trans h)
noncomputable def wR(e:ai):Option (ai×List oo×Scope):=if h:e.ctorIdx=11 then some (O2 e h λa b c ø=>(a,b,c))else none
theorem Ea{e:ai}{q}(h:wR e=some q):∃p,e= .GeneratorExp q.1 q.2.1 q.2.2 p:=by
 by_cases k:e.ctorIdx=11
 ·obtain⟨a,b,c,p,rfl⟩:∃a b c p,e= .GeneratorExp a b c p:=O2 e k λa b c p=>⟨a,b,c,p,rfl⟩
  obtain rfl:=aq h;exact⟨p,rfl⟩
 ·exact al ((dif_neg k).symm.trans h)
noncomputable def ss(e:ai):Option (ai×List oo×Scope×ax):=if h:e.ctorIdx=8 then some (O3 e h λa b c p=>(a,b,c,p))else none
theorem Eb{e:ai}{q}(h:ss e=some q):e= .ListComp q.1 q.2.1 q.2.2.1 q.2.2.2:=by
 by_cases k:e.ctorIdx=8
 ·obtain⟨a,b,c,p,rfl⟩:∃a b c p,e= .ListComp a b c p:=O3 e k λa b c p=>⟨a,b,c,p,rfl⟩
  obtain rfl:=aq h;rfl
 ·exact al ((dif_neg k).symm.trans h)
noncomputable def su(e:ai):Option (Option ai×Option ai×Option ai):=if h:e.ctorIdx=26 then some (O4 e h λa b c ø=>(a,b,c))else none
theorem Ec{e:ai}{q}(h:su e=some q):∃p,e= .Slice q.1 q.2.1 q.2.2 p:=by
 by_cases k:e.ctorIdx=26
 ·obtain⟨a,b,c,p,rfl⟩:∃a b c p,e= .Slice a b c p:=O4 e k λa b c p=>⟨a,b,c,p,rfl⟩
  obtain rfl:=aq h;exact⟨p,rfl⟩
 ·exact al ((dif_neg k).symm.trans h)
noncomputable def mT(c:jh):Option Str:=match c with
 | .str x=>some x
 |_=>none
theorem wS{c:jh}{x:Str}(h:mT c=some x):c= .str x:=by
 cases c with
 |str y=>obtain rfl:=aq h;rfl
 |_=>exact al h
noncomputable def sv(c:jh):Option Int:=match c with
 | .int x=>some x
 |_=>none
theorem Ed{c:jh}{x:Int}(h:sv c=some x):c= .int x:=by
 cases c with
 |int y=>obtain rfl:=aq h;rfl
 |_=>exact al h
noncomputable def wT(c:jh):Option Bool:=match c with
 | .bool x=>some x
 |_=>none
theorem Ee{c:jh}{x:Bool}(h:wT c=some x):c= .bool x:=by
 cases c with
 |bool y=>obtain rfl:=aq h;rfl
 |_=>exact al h
noncomputable def fR(e:ai):Option Str:=(gY e).map (·.1)
theorem iO{e:ai}{x:Str}(h:fR e=some x):∃p,e= .Name x p:=by
 refine eR h λq hq h=> ?_
 subst h;exact⟨_,lE hq⟩
noncomputable def strE(e:ai):Option Str:=(mS e).bind mT
theorem wU{e:ai}{x:Str}(h:strE e=some x):∃k p,e= .Constant (.str x) k p:=by
 refine bl h λc hc h=> ?_
 rw[<-wS h];exact sm hc
structure Calls where
 fn:Str->List PV->Res PV
 meth:aY->Str->List PV->Res PV
 prop:aY->Str->PV->Res PV
 glob:Str->Option PV
noncomputable abbrev aj:=List (Str×PV)
noncomputable def an(x:Str):List Nat:=x.cps.toList
noncomputable def S(x:String):List Nat:=an (aa x)
mutual
noncomputable def PV.py:PV->PyData
 | .none=> .none
 | .bool b=> .bool b
 | .int i=> .int i
 | .str s=> .str ⟨s.toArray⟩
 | .tuple xs=> .tuple (PV.pys xs)
 | .list xs=> .list (PV.pys xs)
 | .inst .. => .none
noncomputable def PV.pys:List PV->List PyData
 |[]=>[]
 |x::xs=>PV.py x::PV.pys xs
end
noncomputable def wV(k:List PV->Bool)(v:PV):Bool:=match v with
 | .none=>true
 | .bool _=>false
 | .int _=>true
 | .str s=>s.all λc=>decide (c<1114112)
 | .tuple xs=>k xs
 | .list xs=>k xs
 | .inst _ _=>false
noncomputable def PV.flat(n:Nat):PV->Bool:=Nat.rec (wV λø=>false) (λø f=>wV λxs=>xs.all f) n
noncomputable def PV.same(a b:PV):Bool:=PyData.eqv a.py b.py
noncomputable def ce(x:List Nat):List Nat->Bool
 |[]=>x.isEmpty
 |c::r=>(x.isPrefixOf (c::r))||ce x r
noncomputable def aX:Nat:=2^20
noncomputable def d4:PV->Option Bool
 | .none=>some false
 | .bool b=>some b
 | .int i=>some (i !=0)
 | .str s=>if s.length<=aX then some (!s.isEmpty)else none
 | .tuple xs=>if xs.length<=aX then some (!xs.isEmpty)else none
 | .list xs=>if xs.length<=aX then some (!xs.isEmpty)else none
 | .inst .. =>none
noncomputable def ir:Nat:=2^1000
noncomputable def small(i:Int):Bool:=decide (i.natAbs<=ir)
noncomputable def gZ(a b:PV):Option (Int×Int):=match a with
 | .int x=>(match b with| .int y=>some (x,y)|_=>none)
 |_=>none
noncomputable def sw(a b:PV):Option (Bool×Bool):=match a with
 | .bool x=>(match b with| .bool y=>some (x,y)|_=>none)
 |_=>none
noncomputable def iP(a b:PV):Option (List Nat×List Nat):=match a with
 | .str x=>(match b with| .str y=>some (x,y)|_=>none)
 |_=>none
noncomputable def mU(a b:PV):Option (List PV×List PV):=match a with
 | .tuple x=>(match b with| .tuple y=>some (x,y)|_=>none)
 |_=>none
noncomputable def mV(a b:PV):Option (List PV×List PV):=match a with
 | .list x=>(match b with| .list y=>some (x,y)|_=>none)
 |_=>none
noncomputable def fU(a:PV):Bool:=match a with
 | .none=>true
 |_=>false
noncomputable def ko(a:PV):Option (List PV):=match a with
 | .list x=>some x
 |_=>none
noncomputable def kq(a:PV):Option (List PV):=match a with
 | .tuple x=>some x
 |_=>none
noncomputable def gk(a:PV):Option (List Nat):=match a with
 | .str x=>some x
 |_=>none
noncomputable def gl(a:PV):Option Int:=match a with
 | .int x=>some x
 |_=>none
noncomputable def iQ(args:List PV):Option PV:=match args with
 |[]=>none
 |a::r=>match r with
  |[]=>some a
  |_=>none
noncomputable def o5(a b:PV):Option PV:=match gZ a b with
 |some p=>some (.int (p.1+p.2))
 |none=>match iP a b with
  |some p=>if p.1.length+p.2.length<=aX then some (.str (p.1++p.2))else none
  |none=>match mU a b with
   |some p=>if p.1.length+p.2.length<=aX then some (.tuple (p.1++p.2))else none
   |none=>match mV a b with
    |some p=>if p.1.length+p.2.length<=aX then some (.list (p.1++p.2))else none
    |none=>none
noncomputable def bH(op:mx)(a b:PV):Option PV:=match op with
 | .Add=>o5 a b
 | .Sub=>(gZ a b).map λp=> .int (p.1-p.2)
 | .Mult=>(gZ a b).bind λp=>if small p.1&&small p.2 then some (.int (p.1*p.2))else none
 | .Mod=>(gZ a b).bind λp=>if 0<p.2/\ p.2<=1000 then some (.int (p.1%p.2))else none
 |_=>none
noncomputable def lF(a b:PV):Option Bool:=match sw a b with
 |some p=>some (p.1==p.2)
 |none=>match iP a b with
  |some p=>some (p.1==p.2)
  |none=>match(mU a b).bind λp=>if p.2.isEmpty then some p.1 else none with
   |some xs=>some xs.isEmpty
   |none=>match(mV a b).bind λp=>if p.2.isEmpty then some p.1 else none with
    |some xs=>some xs.isEmpty
    |none=>if a.flat 4&&b.flat 4 then some (a.same b)else none
noncomputable def sx(a b:PV):Option Bool:=match iP a b with
 |some p=>some (ce p.1 p.2)
 |none=>match ko b with
  |some ys=>if a.flat 4&&ys.all (PV.flat 4)then some (ys.any λy=>y.same a)else none
  |none=>match kq b with
   |some ys=>if a.flat 4&&ys.all (PV.flat 4)then some (ys.any λy=>y.same a)else none
   |none=>none
noncomputable def kr(op:e6)(a b:PV):Option Bool:=match op with
 | .Eq=>lF a b
 | .NotEq=>(lF a b).map (!·)
 | .Lt=>(gZ a b).map λp=>decide (p.1<p.2)
 | .LtE=>(gZ a b).map λp=>decide (p.1<=p.2)
 | .Gt=>(gZ a b).map λp=>decide (p.1>p.2)
 | .GtE=>(gZ a b).map λp=>decide (p.1≥p.2)
 | .Is=>if fU b then some (fU a)else none
 | .IsNot=>if fU b then some (!fU a)else none
 | .In=>sx a b
 | .NotIn=>(iP a b).map λp=> !ce p.1 p.2
noncomputable def fV{α:Type}(xs:List α)(lo up:Option Nat):List α:=
 let xs:=match up with|some u=>xs.take u|none=>xs
 match lo with|some l=>xs.drop l|none=>xs
noncomputable def gm(v:PV):Option (Option Nat):=match v with
 | .none=>some none
 | .int i=>if 0<=i/\ i<=aX then some (some i.toNat)else none
 |_=>none
noncomputable def Ef(xs:List PV)(lo up:PV):Option PV:=if fU lo then(gl up).bind λi=>if i= -1 then(if !xs.isEmpty&&decide (xs.length<=aX)then some (.tuple xs.dropLast)else none)else none else none
noncomputable def Eg(xs:List Nat)(lo up:PV):Option PV:=(gm lo).bind λl=>(gm up).bind λu=>if xs.length<=aX then some (.str (fV xs l u))else none
noncomputable def gE(v lo up:PV):Option PV:=match v with
 | .tuple xs=>Ef xs lo up
 | .str xs=>Eg xs lo up
 |_=>none
noncomputable def iR{α:Type}(xs:List α)(i:Int):Option α:=if 0<=i/\ i<=aX then xs[i.toNat]? else if i= -1 then xs.getLast? else none
noncomputable def fi(v i:PV):Option PV:=match v with
 | .str xs=>(gl i).bind λi=>if 0<=i/\ i<=aX then xs[i.toNat]?.map λc=> .str [c]else none
 | .tuple xs=>(gl i).bind (iR xs)
 | .list xs=>(gl i).bind (iR xs)
 |_=>none
noncomputable def aL(s:List Nat):Int:=s.foldl (λ(n:Int) (c:Nat)=>n*10+((c:Int)-48)) 0
noncomputable def bc(c:Nat):Bool:=48<=c&&c<=57
noncomputable def ej(i:Int):List Nat:=an (aa (toString i))
noncomputable def bJ(c:Nat):List Nat->List (List Nat)
 |[]=>[[]]
 |d::r=>if d=c then []::bJ c r else match bJ c r with
  |[]=>[[d]]
  |w::ws=>(d::w)::ws
noncomputable def aG(sep:List Nat):List (List Nat)->List Nat
 |[]=>[]
 |[x]=>x
 |x::y::r=>x++sep++aG sep (y::r)
noncomputable def sy(a:PV):Option Bool:=match a with
 | .bool x=>some x
 |_=>none
noncomputable def sz(a:PV):Option (aY×List (Str×PV)):=match a with
 | .inst c fs=>some (c,fs)
 |_=>none
noncomputable def cO(l:List PV):Option (List (List Nat)):=List.rec (some []) (λv ø r=>(gk v).bind λs=>r.map (s:: ·)) l
noncomputable def iS(l:List PV):Option (List Bool):=List.rec (some []) (λv ø r=>(sy v).bind λs=>r.map (s:: ·)) l
noncomputable def iT(x:List Nat):List Nat->Nat->Option Nat
 |[],k=>if x.isEmpty then some k else none
 |c::r,k=>if x.isPrefixOf (c::r)then some k else iT x r (k+1)
noncomputable def o6(v:PV):Option PV:=match v with
 | .str s=>if s.length<=aX then some (.int s.length)else none
 | .tuple s=>if s.length<=aX then some (.int s.length)else none
 | .list s=>if s.length<=aX then some (.int s.length)else none
 |_=>none
noncomputable def sA(v:PV):Option PV:=(gk v).bind λs=>if s.all bc&& !s.isEmpty&&decide (s.length<=300)then some (.int (aL s))else none
noncomputable def sB(v:PV):Option PV:=(gl v).bind λi=>if small i then some (.str (ej i))else none
noncomputable def Eh(v:PV):Option PV:=(gl v).bind λi=>if small i then some (.str (S "[" ++ej i++S "]"))else none
noncomputable def sC(v:PV):Option PV:=(ko v).bind λxs=>match xs with
 |[]=>some (.str (S "[]"))
 |v::r=>if r.isEmpty then Eh v else none
noncomputable def sD(args:List PV):Option PV:=match args with
 |[]=>some (.tuple [])
 |_=>(iQ args).bind λv=>(ko v).bind λxs=>if xs.length<=aX then some (.tuple xs)else none
noncomputable def sE(v:PV):Option PV:=(kq v).bind λxs=>if xs.length<=aX then some (.list xs)else none
noncomputable def cW(f:Str)(args:List PV):Option PV:=
 if f=aa "len" then(iQ args).bind o6
 else if f=aa "int" then(iQ args).bind sA
 else if f=aa "str" then(iQ args).bind sB
 else if f=aa "repr" then(iQ args).bind sC
 else if f=aa "tuple" then sD args
 else if f=aa "list" then(iQ args).bind sE
 else none
noncomputable def dK(v:PV)(t:Str):Option Bool:=
 if t=aa "str" then(match v with| .str _=>some true| .inst .. =>some false|_=>none)
 else if t=aa "int" then(match v with| .int _=>some true| .tuple _=>some false| .none=>some false|_=>none)
 else if t=aa "tuple" then(match v with| .tuple _=>some true| .int _=>some false| .none=>some false|_=>none)
 else if t=aa "TupleType" then(match v with| .inst .tup _=>some true| .inst .bas _=>some false|_=>none)
 else if t=aa "BasicType" then(match v with| .inst .tup _=>some false| .inst .bas _=>some true|_=>none)
 else none
noncomputable def wW(s c:List Nat):Option PV:=match c with
 |[]=>none
 |c::r=>if r.isEmpty then(if s.length<=aX then some (.list ((bJ c s).map .str))else none)else none
noncomputable def sF(s:List Nat)(xs:List PV):Option PV:=(cO xs).bind λws=>if s.length+(aG s ws).length<=aX then some (.str (aG s ws))else none
noncomputable def mW(m:Str)(s:List Nat)(a:PV):Option PV:=
 if m=aa "endswith" then(gk a).map λx=> .bool (x.isSuffixOf s)
 else if m=aa "startswith" then(gk a).map λx=> .bool (x.isPrefixOf s)
 else if m=aa "split" then(gk a).bind (wW s)
 else if m=aa "index" then(gk a).bind λx=>(iT x s 0).map λ(k:Nat)=>PV.int (k:Int)
 else if m=aa "join" then(ko a).bind (sF s)
 else none
noncomputable def ci(m:Str)(s:List Nat)(args:List PV):Option PV:=(iQ args).bind (mW m s)
noncomputable def bP:PV->Option (List PV)
 | .str s=>if s.length<=aX then some (s.map λc=> .str [c])else none
 | .tuple xs=>if xs.length<=aX then some xs else none
 | .list xs=>if xs.length<=aX then some xs else none
 |_=>none
noncomputable def aP(x:Str)(v:PV):aj->aj
 |[]=>[(x,v)]
 |(y,w)::r=>if y=x then(y,v)::r else(y,w)::aP x v r
structure Ev where
 ev:Scope->ai->aj->Res PV
 tst:Scope->ai->aj->Res Bool
noncomputable def bK(ev:ai->aj->Res PV):List ai->aj->Res (List PV)
 |[],_=> .ok []
 |e::r,ρ=>(ev e ρ).bind λv=>(bK ev r ρ).bind λvs=> .ok (v::vs)
noncomputable def jv:BoolOp->Bool->Bool
 | .And,t=> !t
 | .Or,t=>t
noncomputable def fk(ev:ai->aj->Res PV)(op:BoolOp):List ai->aj->Res PV
 |[],_=> .stuck
 |[e],ρ=>ev e ρ
 |e::r,ρ=>(ev e ρ).bind λv=>(aE (d4 v)).bind λt=>if jv op t then .ok v else fk ev op r ρ
noncomputable def iU(tst:ai->aj->Res Bool)(op:BoolOp):List ai->aj->Res Bool
 |[],_=> .ok (op== .And)
 |e::r,ρ=>(tst e ρ).bind λt=>if jv op t then .ok t else iU tst op r ρ
noncomputable def sG(op:e6)(a b:PV):Option aY:=if op= .Eq then(sz a).bind λp=>(sz b).map λø=>p.1 else none
noncomputable def bn(C:Calls)(op:e6)(a b:PV):Res Bool:=match sG op a b with
  |some c=>(C.meth c (aa "__eq__") [a,b]).bind λt=>aE (sy t)
  |none=>aE (kr op a b)
noncomputable def gF(C:Calls)(ev:ai->aj->Res PV)(op:e6)(a:PV)(r:ai)(ρ:aj):Res (PV×Bool):=
 (ev r ρ).bind λb=>(bn C op a b).bind λt=> .ok (b,t)
noncomputable def cQ(e:ai):Bool:=e.ctorIdx !=7
noncomputable def lG(C:Calls)(ev:ai->aj->Res PV)(l:ai)(op:e6)(r:ai)(ρ:aj):Res Bool:=(ev l ρ).bind λa=>(gF C ev op a r ρ).bind λp=> .ok p.2
noncomputable def lH(C:Calls)(ev:ai->aj->Res PV)(l:ai)(op op':e6)(r r':ai)(ρ:aj):Res Bool:=(ev l ρ).bind λa=>(gF C ev op a r ρ).bind λp=>if p.2 then(gF C ev op' p.1 r' ρ).bind λp=> .ok p.2 else .ok false
noncomputable def fW(C:Calls)(ev:ai->aj->Res PV)(l:ai)(ops:List e6)(rs:List ai)(ρ:aj):Res Bool:=
 match ops with
  |[]=> .stuck
  |op::ops=>match rs with
   |[]=> .stuck
   |r::rs=>match ops with
    |[]=>if rs.isEmpty=true/\ cQ r=true then lG C ev l op r ρ else .stuck
    |op'::ops=>match rs with
     |[]=> .stuck
     |r'::rs=>if ops.isEmpty=true/\ rs.isEmpty=true/\ cQ r' =true then lH C ev l op op' r r' ρ else .stuck
noncomputable def cf(sc:Scope)(x:Str):Bool:=sc.names.lookup x==some .globalImplicit
noncomputable def bQ(sc:Scope)(x:Str):Bool:=sc.names.lookup x==some .local
noncomputable def fm{α β:Type}(f:α->Res β):List α->Res (List β)
 |[]=> .ok []
 |a::r=>(f a).bind λb=>(fm f r).bind λbs=> .ok (b::bs)
noncomputable def iu{α:Type}(f:α->Res Bool):List α->Res (List α)
 |[]=> .ok []
 |a::r=>(f a).bind λb=>(iu f r).bind λbs=> .ok (if b then a::bs else bs)
noncomputable def b4{α:Type}:Res α->Res α
 | .exc _=> .stuck
 |r=>r
noncomputable def g7(sc:Scope):Bool:=sc.kind== .function&& !sc.isCoroutine&&sc.names.all λy=>y.2 != .cell&&y.2 != .free&&(y.2 != .local||sc.names.lookup y.1==some .local)
noncomputable def iv(E:Ev)(csc:Scope)(x:Str)(ifs:List ai)(v:PV):Res Bool:=match ifs with
 |[]=> .ok true
 |t::r=>if r.isEmpty=true then E.tst csc t [(x,v)]else .stuck
noncomputable def cj(E:Ev)(csc:Scope)(x:Str)(elt:ai)(ifs:List ai)(items:List PV):Res (List PV):=
 if g7 csc&&bQ csc x&&x !=aa ".0" then
  (b4 (iu (iv E csc x ifs) items)).bind λvs=>b4 (fm (λv=>E.ev csc elt [(x,v)]) vs)
 else .stuck
noncomputable def eG(csc:Scope)(iter:ai):Bool:=(iter.ctorIdx !=7&&iter.ctorIdx !=24)&&(csc.names.lookup (aa ".0")==some .local)
noncomputable def bv(es:List ai):Bool:=es.all λe=>e.ctorIdx !=22
noncomputable def fX(f:Str):Option ae:=
 if f=aa "len" then some (.builtin "len")
 else if f=aa "int" then some (.type "int")
 else if f=aa "str" then some (.type "str")
 else if f=aa "repr" then some (.builtin "repr")
 else if f=aa "tuple" then some (.type "tuple")
 else if f=aa "list" then some (.type "list")
 else none
noncomputable def jw:List Str:=["_parse_digits", "_parse_arrlist", "_parse_sub", "_parse_tuple_type", "_parse_type", "parse", "TupleType", "BasicType", "_law_names", "_law_subs", "_law_marks", "_law_take", "_law_tree", "_law_number", "_law_parts", "_law_name", "_law_read", "_law_varies", "_law_valid", "_law_told", "_law_agrees"].map aa
noncomputable def g8:List Str:=["to_type_str", "validate", "invalidate"].map aa
noncomputable def iV(C:Calls)(f:Str)(vs:List PV):Res PV:=match fX f with
 |some _=>aE (cW f vs)
 |none=>C.fn f vs
noncomputable def iW:List Str:=["endswith", "startswith", "split", "index", "join"].map aa
noncomputable def o7(f:Str):Bool:=(fX f).isSome||jw.contains f
noncomputable def fo(e:ai):Bool:=e.ctorIdx !=16
noncomputable def dL:List Str:=[aa "arrlist",aa "components",aa "base",aa "sub"]
noncomputable def fY:Nat:=60000
noncomputable def eS(v:PV):Res PV:=match v with
 | .str s=>if s.length<=fY then .ok (.str s)else .stuck
 | .int i=>if small i&&decide ((ej i).length<=fY)then .ok (.str (ej i))else .stuck
 | .none=> .stuck
 | .bool _=> .stuck
 | .tuple _=> .stuck
 | .list _=> .stuck
 | .inst _ _=> .stuck
noncomputable def gG(ev:ai->aj->Res PV)(p:ai)(ρ:aj):Res PV:=match p with
 | .FormattedValue e c f _=>if c= -1/\ f.isNone=true then(ev e ρ).bind eS else .stuck
 | .Constant c _ _=>(match mT c with|some x=>eS (.str (an x))|none=> .stuck)
 |_=> .stuck
noncomputable def Ei(elt:ai)(gsc:Scope)(g:oo):Option (ai×Str×ai×Scope):=(fR g.target).bind λx=>if g.ifs.isEmpty=true/\ g.is_async=0 then some (elt,x,g.iter,gsc)else none
noncomputable def Ej(e:ai):Option (ai×Str×ai×Scope):=(wR e).bind λq=>(fh q.2.1).bind (Ei q.1 q.2.2)
noncomputable def kt(args:List ai):Option (ai×Str×ai×Scope):=(fh args).bind Ej
noncomputable def o8(args:List ai):Option (ai×Str):=(two args).bind λq=>(fR q.2).map λn=>(q.1,n)
noncomputable def Ek(c:jh):Res PV:=match c with
 | .none=> .ok .none
 | .bool b=> .ok (.bool b)
 | .int i=> .ok (.int i)
 | .str x=> .ok (.str (an x))
 |_=> .stuck
noncomputable def sH(C:Calls)(sc:Scope)(x:Str)(ρ:aj):Res PV:=if x=aa "__debug__" then .stuck else match ρ.lookup x with
  |some v=> .ok v
  |none=>if cf sc x then aE (C.glob x)else .stuck
noncomputable def sJ(x:ai):Res PV:=match(mS x).bind sv with
 |some i=> .ok (.int (-i))
 |none=> .stuck
noncomputable def El(E:Ev)(sc:Scope)(op:UnaryOp)(x:ai)(ρ:aj):Res PV:=match op with
 | .Not=>(E.ev sc x ρ).bind λv=>(aE (d4 v)).bind λt=> .ok (.bool !t)
 | .USub=>sJ x
 |_=> .stuck
noncomputable def wX(E:Ev)(sc:Scope)(ρ:aj)(e:Option ai):Res PV:=match e with
 |some e=>E.ev sc e ρ
 |none=> .ok .none
noncomputable def sK(E:Ev)(sc:Scope)(v i:ai)(ρ:aj):Res PV:=match su i with
 |some q=>if q.2.2.isNone=true then(E.ev sc v ρ).bind λa=>(wX E sc ρ q.1).bind λl=>(wX E sc ρ q.2.1).bind λu=>aE (gE a l u)else .stuck
 |none=>(E.ev sc v ρ).bind λa=>(E.ev sc i ρ).bind λk=>aE (fi a k)
noncomputable def ku(C:Calls)(E:Ev)(sc:Scope)(f:Str)(args:List ai)(ρ:aj):Res PV:=
 if bv args&&o7 f then(bK (E.ev sc) args ρ).bind λvs=>iV C f vs else .stuck
noncomputable def mX(C:Calls)(E:Ev)(sc:Scope)(f:Str)(args:List ai)(ρ:aj):Res PV:=match o8 args with
 |some q=>if f=aa "isinstance" then
   (if cf sc q.2&&(ρ.lookup q.2).isNone&&bv [q.1]then(E.ev sc q.1 ρ).bind λv=>(aE (dK v q.2)).bind λb=> .ok (.bool b)else .stuck)
   else ku C E sc f args ρ
 |none=>ku C E sc f args ρ
noncomputable def jx(C:Calls)(gen:Bool)(E E':Ev)(sc:Scope)(f:Str)(args:List ai)(ρ:aj):Res PV:=
 if !cf sc f||(ρ.lookup f).isSome||f=aa "__debug__" then .stuck
 else match kt args with
  |some q=>
   if f=aa "any" &&gen&&eG q.2.2.2 q.2.2.1 then
    (b4 (E.ev sc q.2.2.1 ρ)).bind λv=>(aE (bP v)).bind λitems=>(cj E' q.2.2.2 q.2.1 q.1 [] items).bind λvs=>
     (aE (iS vs)).bind λbs=> .ok (.bool (bs.any id))
   else .stuck
  |none=>mX C E sc f args ρ
noncomputable def lI(gen:Bool)(E E':Ev)(sc:Scope)(m:Str)(s:List Nat)(args:List ai)(ρ:aj):Res PV:=match kt args with
 |some q=>
  if m=aa "join" &&gen&&eG q.2.2.2 q.2.2.1 then
   (b4 (E.ev sc q.2.2.1 ρ)).bind λv=>(aE (bP v)).bind λitems=>(cj E' q.2.2.2 q.2.1 q.1 [] items).bind λvs=>
    aE (ci m s [.list vs])
  else .stuck
 |none=>if iW.contains m then(bK (E.ev sc) args ρ).bind λvs=>aE (ci m s vs)else .stuck
noncomputable def jy(C:Calls)(gen:Bool)(E E':Ev)(sc:Scope)(o:ai)(m:Str)(apos:ax)(args:List ai)(pos:ax)(ρ:aj):Res PV:=
 if !(fo o&&apos.endLine==pos.line&&bv args&&decide (args.length<29))then .stuck else(E.ev sc o ρ).bind λov=>match ov with
   | .str s=>lI gen E E' sc m s args ρ
   | .inst c fs=>if(fs.lookup m).isNone&&g8.contains m then(bK (E.ev sc) args ρ).bind λvs=>C.meth c m (.inst c fs::vs)else .stuck
   |_=> .stuck
noncomputable def Em(C:Calls)(gen:Bool)(E E':Ev)(sc:Scope)(f:ai)(args:List ai)(ks:List Keyword)(pos:ax)(ρ:aj):Res PV:=match ks with
 |[]=>(match gY f with
  |some q=>jx C gen E E' sc q.1 args ρ
  |none=>match o4 f with
   |some q=>jy C gen E E' sc q.1 q.2.1 q.2.2 args pos ρ
   |none=> .stuck)
 |_=> .stuck
noncomputable def sL(C:Calls)(E:Ev)(sc:Scope)(o:ai)(a:Str)(ρ:aj):Res PV:=if !fo o then .stuck else(E.ev sc o ρ).bind λov=>match ov with
   | .inst c fs=>if dL.contains a then aE (fs.lookup a)else C.prop c a (.inst c fs)
   |_=> .stuck
noncomputable def sM(E E':Ev)(sc:Scope)(elt:ai)(csc:Scope)(g:oo)(x:Str)(ρ:aj):Res PV:=
 if g.is_async=0 then(if !cQ g.iter then .stuck else
    (b4 (E.ev sc g.iter ρ)).bind λv=>(aE (bP v)).bind λitems=>(cj E' csc x elt g.ifs items).bind λvs=> .ok (.list vs))else .stuck
noncomputable def mY(E E':Ev)(sc:Scope)(elt:ai)(gs:List oo)(csc:Scope)(ρ:aj):Res PV:=match fh gs with
 |none=> .stuck
 |some g=>match fR g.target with
  |none=> .stuck
  |some x=>sM E E' sc elt csc g x ρ
noncomputable def wY(C:Calls)(gen:Bool)(E E':Ev)(sc:Scope)(e:ai)(ρ:aj):Res PV:=match e with
 | .Constant c _ _=>Ek c
 | .Name x _=>sH C sc x ρ
 | .Tuple es _ _=>if bv es&&decide (es.length<=64)then(bK (E.ev sc) es ρ).bind λvs=> .ok (.tuple vs)else .stuck
 | .List es _=>if bv es&&decide (es.length<=64)then(bK (E.ev sc) es ρ).bind λvs=> .ok (.list vs)else .stuck
 | .BinOp l op r _=>(E.ev sc l ρ).bind λa=>(E.ev sc r ρ).bind λb=>aE (bH op a b)
 | .UnaryOp op x _=>El E sc op x ρ
 | .Compare l ops rs _=>(fW C (E.ev sc) l ops rs ρ).bind λt=> .ok (.bool t)
 | .BoolOp op vs _=>fk (E.ev sc) op vs ρ
 | .IfExp t b o _=>(E.tst sc t ρ).bind λc=>if c then E.ev sc b ρ else E.ev sc o ρ
 | .Subscript v i _=>sK E sc v i ρ
 | .Call f args ks pos=>Em C gen E E' sc f args ks pos ρ
 | .Attribute o a _=>sL C E sc o a ρ
 | .ListComp elt gs csc _=>mY E E' sc elt gs csc ρ
 | .JoinedStr parts _=>if decide (2<=parts.length)&&decide (parts.length<=16)then(bK (gG (E.ev sc)) parts ρ).bind λvs=>match cO vs with
    |some ws=> .ok (.str ws.flatten)
    |none=> .stuck
   else .stuck
 |_=> .stuck
noncomputable def En(E:Ev)(sc:Scope)(op:UnaryOp)(x e:ai)(ρ:aj):Res Bool:=match op with
 | .Not=>(E.tst sc x ρ).bind λt=> .ok !t
 |_=>(E.ev sc e ρ).bind λv=>aE (d4 v)
noncomputable def wZ(C:Calls)(E:Ev)(sc:Scope)(e:ai)(ρ:aj):Res Bool:=match e with
 | .UnaryOp op x _=>En E sc op x e ρ
 | .BoolOp op vs _=>iU (E.tst sc) op vs ρ
 | .IfExp t b o _=>(E.tst sc t ρ).bind λc=>if c then E.tst sc b ρ else E.tst sc o ρ
 | .Compare l ops rs _=>fW C (E.ev sc) l ops rs ρ
 |e=>(E.ev sc e ρ).bind λv=>aE (d4 v)
noncomputable def pE(C:Calls)(gen:Bool):Nat->Ev
 |0=>⟨λø ø ø=> .stuck,λø ø ø=> .stuck⟩
 |n+1=>⟨λsc e ρ=>wY C gen (pE C gen n) (pE C false n) sc e ρ,λsc e ρ=>wZ C (pE C gen n) sc e ρ⟩
inductive aB where
 |next (ρ:aj)
 |brk (ρ:aj)
 |ret (v:PV)
 |exc (c:XC) (ρ:aj)
 |rais (c:XC) (ρ:aj)
 |held (c:XC)
 |stuck
noncomputable def aW{α:Type}(r:Res α)(ρ:aj)(f:α->aB):aB:=match r with
 | .ok a=>f a
 | .exc c=> .exc c ρ
 | .stuck=> .stuck
theorem PM{α:Type}(a:α)(ρ:aj)(f:α->aB):aW (.ok a) ρ f=f a:=rfl
noncomputable def aw(ex:aC->aj->aB):List aC->aj->aB
 |[],ρ=> .next ρ
 |s::r,ρ=>match ex s ρ with
  | .next ρ' =>aw ex r ρ'
  |o=>o
noncomputable def dz(tst:aj->Res Bool)(body:aj->aB):Nat->aj->aB
 |0,_=> .stuck
 |n+1,ρ=>match tst ρ with
  | .ok true=>(match body ρ with
   | .next ρ' =>dz tst body n ρ'
   | .brk ρ' => .next ρ'
   | .ret v=> .ret v
   |_=> .stuck)
  | .ok false=> .next ρ
  |_=> .stuck
noncomputable def cX(body:aj->aB)(x:Str):List PV->aj->aB
 |[],ρ=> .next ρ
 |v::r,ρ=>match body (aP x v ρ)with
  | .next ρ' =>cX body x r ρ'
  | .ret v=> .ret v
  | .exc c _=> .held c
  |_=> .stuck
noncomputable def Eo:List ai->Option (List Str)
 |[]=>some []
 | .Name x _::r=>(Eo r).map (x:: ·)
 |_=>none
noncomputable def Ep:List Str->List PV->aj->aj
 |x::xs,v::vs,ρ=>Ep xs vs (aP x v ρ)
 |_,_,ρ=>ρ
noncomputable def jz(f:Str):Option XC:=
 if f=aa "ParseError" then some .parse
 else if f=aa "ValueError" then some .value
 else if f=aa "ABITypeError" then some .abi
 else none
noncomputable def jA(t:Str)(c:XC):Option Bool:=
 if t=aa "ParseError" then some (c== .parse)
 else if t=aa "ValueError" then some (c== .value||c== .abi)
 else if t=aa "ABITypeError" then some (c== .abi)
 else none
noncomputable def sN(e:ai):Option Str:=(wP e).bind λq=>(fR q.1).bind λx=>(fh q.2.1).bind λop=>(fh q.2.2).bind λt=>(kn t).bind λes=>if op= .Eq/\ es.isEmpty=true then some x else none
noncomputable def sP(e:ai)(ρ:aj):aB:=match strE e with
 |some x=> .ret (.str (an x))
 |none=>match sN e with
  |none=> .stuck
  |some x=>if x=aa "__debug__" then .stuck else match ρ.lookup x with
   |none=> .stuck
   |some v=>match kr .Eq v (.tuple [])with
    |none=> .stuck
    |some b=> .ret (.bool b)
noncomputable def o9(ts:List ai)(v:ai):Option (Str×Bool):=((fh ts).bind fR).bind λx=>((mS v).bind wT).map λb=>(x,b)
noncomputable def Er(sc:Scope)(ts:List ai)(v:ai)(ρ:aj):aB:=match o9 ts v with
 |some q=>if bQ sc q.1=true then .next (aP q.1 (.bool q.2) ρ)else .stuck
 |none=> .stuck
noncomputable def w0(sc:Scope)(st:aC)(ρ:aj):aB:=match st with
 | .Return e _=>(match e with|some e=>sP e ρ|none=> .stuck)
 | .Assign ts v _=>Er sc ts v ρ
 |_=> .stuck
noncomputable def pa(sc:Scope)(sts:List aC)(ρ:aj):aB:=match fh sts with
 |some st=>w0 sc st ρ
 |none=> .stuck
noncomputable def mZ(ty:Option ai)(nm:Option Str):Option Str:=match ty with
 |none=>none
 |some e=>match nm with
  |none=>fR e
  |some _=>none
noncomputable def lJ(sc:Scope)(c:XC)(ρ:aj)(t:Str)(body:List aC)(k:aB):aB:=match body with
 |[]=> .stuck
 |b::body=>if cf sc t&&(ρ.lookup t).isNone then(match jA t c with
  |none=> .stuck
  |some y=>cond y (pa sc (b::body) ρ) k)else .stuck
noncomputable def Es(sc:Scope)(c:XC)(ρ:aj)(h:ExceptHandler)(k:aB):aB:=match h with
 | .ExceptHandler ty nm body _=>match mZ ty nm with
  |none=> .stuck
  |some t=>lJ sc c ρ t body k
noncomputable def fZ(sc:Scope)(c:XC)(ρ:aj)(l:List ExceptHandler):aB:=List.rec .stuck (λh ø k=>Es sc c ρ h k) l
noncomputable def jB:Nat:=100
noncomputable def sQ(a b:ai):Bool:=(a.ctorIdx==20&&b.ctorIdx==20)||(a.ctorIdx==21&&b.ctorIdx==21)
noncomputable def sR(es:List ai):Bool:=match two es with
 |some q=>sQ q.1 q.2&& !([q.1,q.2].all (foldedForSure 8))&& !([q.1,q.2].all (constantsAlone 8))
 |none=>false
noncomputable def kv(e:ai):Bool:=e.ctorIdx !=8&&e.ctorIdx !=9&&e.ctorIdx !=10
noncomputable def pb(e:ai):Bool:=match kn e with
 |some es=>sR es
 |none=>kv e
noncomputable def sS(v:PV)(ρ:aj):aB:=if fU v=true then .next ρ else .stuck
noncomputable def sU(E:Ev)(sc:Scope)(v:ai)(ρ:aj):aB:=match strE v with
 |some _=> .next ρ
 |none=>match o0 v with
  |some _=>aW (E.ev sc v ρ) ρ λv=>sS v ρ
  |none=> .stuck
noncomputable def sV(E:Ev)(sc:Scope)(x:Str)(px:ax)(v:ai)(ρ:aj):aB:=match ss v with
 |some q=>if bQ sc x&&px.line==q.2.2.2.line&&(q.2.2.1.names.lookup x).isNone then aW (E.ev sc v ρ) ρ λa=> .next (aP x a ρ)else .stuck
 |none=>if bQ sc x&&kv v then aW (E.ev sc v ρ) ρ λa=> .next (aP x a ρ)else .stuck
noncomputable def lK(x y:Str)(ρ:aj)(v:PV):aB:=match(kq v).bind two with
 |some q=> .next (aP y q.2 (aP x q.1 ρ))
 |none=> .stuck
noncomputable def pc(es:List ai):Option ((Str×ax)×(Str×ax)):=(two es).bind λq=>(gY q.1).bind λp=>(gY q.2).map λr=>(p,r)
theorem Et{es:List ai}{n:(Str×ax)×(Str×ax)}(h:pc es=some n):es=[.Name n.1.1 n.1.2, .Name n.2.1 n.2.2]:=by
 refine bl h λq hq h=> ?_
 refine bl h λp hp h=> ?_
 refine eR h λr hr h=> ?_
 subst h
 rw[oZ hq,lE hp,lE hr]
noncomputable def w5(E:Ev)(sc:Scope)(n:(Str×ax)×(Str×ax))(v:ai)(ρ:aj):aB:=
 if bQ sc n.1.1&&bQ sc n.2.1&&n.1.1 !=n.2.1&&n.1.2.line==n.2.2.line&&pb v then aW (E.ev sc v ρ) ρ (lK n.1.1 n.2.1 ρ)else .stuck
noncomputable def sW(E:Ev)(sc:Scope)(t v:ai)(ρ:aj):aB:=match gY t with
 |some q=>sV E sc q.1 q.2 v ρ
 |none=>match(kn t).bind pc with
  |some n=>w5 E sc n v ρ
  |none=> .stuck
noncomputable def sX(E:Ev)(sc:Scope)(ts:List ai)(v:ai)(ρ:aj):aB:=match fh ts with
 |some t=>sW E sc t v ρ
 |none=> .stuck
noncomputable def sY(E:Ev)(sc:Scope)(t:ai)(op:mx)(v:ai)(ρ:aj):aB:=match gY t with
 |some q=>(match(ρ.lookup q.1).bind gl with
  |some i=>if op= .Add \/op= .Sub then aW (E.ev sc v ρ) ρ λb=>aW (aE (bH op (.int i) b)) ρ λr=> .next (aP q.1 r ρ)else .stuck
  |none=> .stuck)
 |none=> .stuck
noncomputable def sZ(E:Ev)(ex:Scope->aC->aj->aB)(sc:Scope)(t it:ai)(b:List aC)(ρ:aj):aB:=match fR t with
 |some x=>if bQ sc x&&cQ it then aW (b4 (E.ev sc it ρ)) ρ λv=>aW (aE (bP v)) ρ λitems=>cX (aw (ex sc) b) x items ρ else .stuck
 |none=> .stuck
noncomputable def s0(v:ai):Option (Str×ai):=(o0 v).bind λq=>(fR q.1).bind λf=>(fh q.2.1).bind λe=>if q.2.2.isEmpty=true then some (f,e)else none
theorem Eu{v:ai}{q:Str×ai}(h:s0 v=some q):∃p p',v= .Call (.Name q.1 p) [q.2] [] p':=by
 refine bl h λc hc h2=> ?_
 refine bl h2 λf hf h3=> ?_
 refine bl h3 λe he h4=> ?_
 refine xE (wQ hc) λp e0=> ?_
 by_cases k:c.2.2.isEmpty=true
 ·rw[if_pos k]at h4
  have h5:=aq h4
  subst h5
  refine xE (iO hf) λp' e1=> ?_
  exact⟨p',p,by rw[e0,e1,gX he,gR.mp k]⟩
 ·exact al ((if_neg k).symm.trans h4)
noncomputable def s3(f:Str)(v:PV)(ρ:aj):aB:=match gk v with
 |some _=>(match jz f with
  |some c=> .rais c ρ
  |none=> .stuck)
 |none=> .stuck
noncomputable def s4(E:Ev)(sc:Scope)(v:ai)(ρ:aj):aB:=match s0 v with
 |some q=>if cf sc q.1&&bv [q.2]then aW (b4 (E.ev sc q.2 ρ)) ρ λv=>s3 q.1 v ρ else .stuck
 |none=> .stuck
noncomputable def Ew(ex:Scope->aC->aj->aB)(sc:Scope)(b:List aC)(hs:List ExceptHandler)(ρ:aj):aB:=match hs with
 |[]=> .stuck
 |h::hs=>match aw (ex sc) b ρ with
  | .next ρ' => .next ρ'
  | .ret v=> .ret v
  | .exc c ρ' =>fZ sc c ρ' (h::hs)
  |_=> .stuck
noncomputable def lL(E:Ev)(ex:Scope->aC->aj->aB)(sc:Scope)(st:aC)(ρ:aj):aB:=match st with
 | .Expr v _=>sU E sc v ρ
 | .Assign ts v _=>sX E sc ts v ρ
 | .AugAssign t op v _=>sY E sc t op v ρ
 | .If t b o _=>aW (E.tst sc t ρ) ρ λc=>if c then aw (ex sc) b ρ else aw (ex sc) o ρ
 | .While t b o _=>(match o with|[]=>dz (E.tst sc t) (aw (ex sc) b) jB ρ|_=> .stuck)
 | .For t it b o _=>(match o with|[]=>sZ E ex sc t it b ρ|_=> .stuck)
 | .Return e _=>(match e with|some e=>aW (E.ev sc e ρ) ρ λv=> .ret v|none=> .stuck)
 | .Break _=> .brk ρ
 | .Pass _=> .next ρ
 | .Raise v c _=>(match v with|some v=>(match c with|none=>s4 E sc v ρ|_=> .stuck)|none=> .stuck)
 | .Try b hs o f _=>(match o with|[]=>(match f with|[]=>Ew ex sc b hs ρ|_=> .stuck)|_=> .stuck)
 |_=> .stuck
noncomputable def pX(C:Calls)(gen:Bool):Nat->Scope->aC->aj->aB
 |0=>λø ø ø=> .stuck
 |n+1=>lL (pE C gen 24) (pX C gen n)
noncomputable def Ex(C:Calls)(gen:Bool)(sc:Scope)(body:List aC)(ρ:aj):Res PV:=match aw (pX C gen 12 sc) body ρ with
 | .ret v=> .ok v
 | .next _=> .ok .none
 | .exc c _=> .exc c
 | .rais c _=> .exc c
 | .held c=> .exc c
 | .brk _=> .stuck
 | .stuck=> .stuck
noncomputable def ag(n:Nat):aC:=(ig.main.body[n]?).getD default
noncomputable def am(s:aC)(n:Nat):aC:=match s with
 | .ClassDef _ _ _ b _ _ _ _ _ _ _=>(b[n]?).getD default
 |_=>default
noncomputable def aS:aC->List aC
 | .FunctionDef _ _ b _ _ _ _ _ _ _=>b
 |_=>[]
noncomputable def cg:aC->Scope
 | .FunctionDef _ _ _ _ _ _ s _ _ _=>s
 |_=>default
noncomputable def au:aC->List Str
 | .FunctionDef _ a _ _ _ _ _ _ _ _=>a.args.map (·.arg)
 |_=>[]
noncomputable def w6:aC->Str
 | .FunctionDef n _ _ _ _ _ _ _ _ _=>n
 | .ClassDef n _ _ _ _ _ _ _ _ _ _=>n
 |_=>Str.empty
noncomputable def PN(C:Calls)(gen:Bool)(s:aC)(args:List PV):Res PV:=Ex C gen (cg s) (aS s) ((au s).zip args)
end
section
noncomputable def hS(x:String)(n:Nat):ae:= .str (aa x) n
noncomputable def hG:ae:=hS "eth_abi.grammar" 227
noncomputable def hL:ae:=hS "law_iv0009_01" 511
noncomputable def Ey:aC->Arguments
 | .FunctionDef _ a _ _ _ _ _ _ _ _=>a
 |_=>default
noncomputable def hF(a:Addr)(s:aC)(q:Str)(m df:ae)(cl:List (Str×Addr))(ct:ae):Addr×Obj:=(a,{cls:= .type "function",data:= .func {name:=w6 s,qualname:=q,params:=Ey s,body:= .stmts (aS s),scope:=cg s,globals:=3,closure:=cl,defaults:=df,kwdefaults:= .none,pyModule:=m,code:= .ref (a-1),closureTuple:=ct}})
noncomputable def hC(a:Addr)(s:aC)(q:String)(b n:Nat)(l:Int)(w:Bool):Addr×Obj:=(a,{cls:= .type "code",data:= .fields #[.str (w6 s) b,hS q (b+1),hS "/claim/cut.py" (b+2), .int l 0, .int (au s).length 0, .int 0 0, .int 0 0, .int 3 0, .ref (a-bif w then 3 else 5), .bool true, .int 181 0, .ref (a-bif w then 2 else 4), .none,bif w then .none else .ref (a-3),bif w then .none else .ref (a-2), .ref (a-1), .int n 0, .int l 0,hS "/claim/cut.py" (n+1)]})
noncomputable def hE(P:ak)(x:String)(n:Nat)(v:ae):eO:={hash:=CL P (aa x),key:=hS x n,val:=v}
noncomputable def HK(P:ak):Frag:=[(2,{cls:= .none,data:= .dict #[hE P "type.__subclasses__.Exception.0" 205 (.int 24 0),hE P "type.__subclasses__.Exception.n" 206 (.int 1 0)] 2}),
 (3,{cls:= .type "dict",data:= .dict #[hE P "__name__" 165 (hS "law_iv0009_01" 511),hE P "__doc__" 166 (.none),hE P "__package__" 167 (.none),hE P "__loader__" 168 (.builtin "__main__.__loader__#opaque"),hE P "__spec__" 169 (.none),hE P "__annotations__" 170 (.ref 6),hE P "__builtins__" 171 (.ref 4),hE P "__file__" 173 (hS "/claim/cut.py" 172),hE P "__cached__" 174 (.none),hE P "ParseError" 208 (.ref 24),hE P "ABITypeError" 226 (.ref 37),hE P "_LETTERS" 230 (hS "ABCDEFGHIJKLMNOPQRSTUVWXYZabcdefghijklmnopqrstuvwxyz" 229),hE P "_DIGITS" 232 (hS "0123456789" 231),hE P "_parse_digits" 241 (.ref 47),hE P "_parse_arrlist" 251 (.ref 54),hE P "_parse_sub" 261 (.ref 61),hE P "_parse_tuple_type" 272 (.ref 68),hE P "_parse_type" 284 (.ref 75),hE P "parse" 292 (.ref 82),hE P "ABIType" 384 (.ref 160),hE P "TupleType" 444 (.ref 214),hE P "BasicType" 510 (.ref 266),hE P "_law_names" 518 (.ref 275),hE P "_law_subs" 524 (.ref 282),hE P "_law_marks" 530 (.ref 289),hE P "_law_take" 537 (.ref 296),hE P "_law_tree" 543 (.ref 301),hE P "_law_number" 549 (.ref 306),hE P "_law_parts" 559 (.ref 313),hE P "_law_name" 565 (.ref 318),hE P "_law_read" 571 (.ref 323),hE P "_law_varies" 577 (.ref 328),hE P "_law_valid" 583 (.ref 333),hE P "_law_told" 590 (.ref 340),hE P "_law_agrees" 596 (.ref 345),hE P "law" 610 (.ref 352)] 36}),
 (23,{cls:= .type "dict",data:= .dict #[hE P "__module__" 196 (hS "eth_abi.exceptions" 187),hE P "__firstlineno__" 200 (.int 2 199),hE P "__static_attributes__" 201 (.ref 22),hE P "__weakref__" 203 (.ref 25),hE P "__doc__" 204 (.none)] 3}),
 (24,{cls:= .type "type",data:= .cls {name:= "ParseError",bases:=[.type "Exception"],mro:=[.ref 24, .type "Exception", .type "BaseException", .type "object"],ns:=23,qualname:= "ParseError" },slots:= #[some (.ref 15),none,some (hS "ParseError" 189),some (hS "ParseError" 197),some (.builtin "Exception.__new__"),some (.bool true)]}),
 (36,{cls:= .type "dict",data:= .dict #[hE P "__module__" 216 (hS "eth_abi.exceptions" 187),hE P "__firstlineno__" 220 (.int 4 219),hE P "__static_attributes__" 221 (.ref 35),hE P "__weakref__" 223 (.ref 38),hE P "__doc__" 224 (.none)] 3}),
 (37,{cls:= .type "type",data:= .cls {name:= "ABITypeError",bases:=[.type "ValueError"],mro:=[.ref 37, .type "ValueError", .type "Exception", .type "BaseException", .type "object"],ns:=36,qualname:= "ABITypeError" },slots:= #[some (.ref 28),none,some (hS "ABITypeError" 209),some (hS "ABITypeError" 217),some (.builtin "ValueError.__new__"),some (.bool true)]}),
 hC 46 (ag 6) "_parse_digits" 233 239 9 false,
 hF 47 (ag 6) "_parse_digits" hG .none [] .none,
 hC 53 (ag 7) "_parse_arrlist" 242 249 16 false,
 hF 54 (ag 7) "_parse_arrlist" hG .none [] .none,
 hC 60 (ag 8) "_parse_sub" 252 259 29 false,
 hF 61 (ag 8) "_parse_sub" hG .none [] .none,
 hC 67 (ag 9) "_parse_tuple_type" 262 270 38 false,
 hF 68 (ag 9) "_parse_tuple_type" hG .none [] .none,
 hC 74 (ag 10) "_parse_type" 273 282 50 false,
 hF 75 (ag 10) "_parse_type" hG .none [] .none,
 hC 81 (ag 11) "parse" 285 290 62 false,
 hF 82 (ag 11) "parse" hG .none [] .none,
 (90,{cls:= .type "tuple",data:= .seq #[.none]}),
 hC 96 (am (ag 12) 0) "ABIType.__init__" 305 310 73 false,
 hF 97 (am (ag 12) 0) "ABIType.__init__" hG (.ref 90) [] .none,
 hC 103 (am (ag 12) 1) "ABIType.__eq__" 313 318 77 false,
 hF 104 (am (ag 12) 1) "ABIType.__eq__" hG .none [] .none,
 hC 110 (am (ag 12) 2) "ABIType.to_type_str" 321 325 80 false,
 hF 111 (am (ag 12) 2) "ABIType.to_type_str" hG .none [] .none,
 hC 117 (am (ag 12) 3) "ABIType.item_type" 328 332 83 false,
 hF 118 (am (ag 12) 3) "ABIType.item_type" hG .none [] .none,
 (119,{cls:= .type "property",data:= .fields #[.ref 118, .none, .none, .none,hS "item_type" 335, .bool false]}),
 hC 125 (am (ag 12) 4) "ABIType.validate" 336 340 87 false,
 hF 126 (am (ag 12) 4) "ABIType.validate" hG .none [] .none,
 hC 132 (am (ag 12) 5) "ABIType.invalidate" 343 348 90 false,
 hF 133 (am (ag 12) 5) "ABIType.invalidate" hG .none [] .none,
 hC 139 (am (ag 12) 6) "ABIType.is_array" 351 355 93 false,
 hF 140 (am (ag 12) 6) "ABIType.is_array" hG .none [] .none,
 (141,{cls:= .type "property",data:= .fields #[.ref 140, .none, .none, .none,hS "is_array" 358, .bool false]}),
 hC 147 (am (ag 12) 7) "ABIType.is_dynamic" 359 363 97 false,
 hF 148 (am (ag 12) 7) "ABIType.is_dynamic" hG .none [] .none,
 (149,{cls:= .type "property",data:= .fields #[.ref 148, .none, .none, .none,hS "is_dynamic" 366, .bool false]}),
 hC 155 (am (ag 12) 8) "ABIType._has_dynamic_arrlist" 367 371 101 false,
 hF 156 (am (ag 12) 8) "ABIType._has_dynamic_arrlist" hG .none [] .none,
 (157,{cls:= .type "property",data:= .fields #[.ref 156, .none, .none, .none,hS "_has_dynamic_arrlist" 374, .bool false]}),
 (159,{cls:= .type "dict",data:= .dict #[hE P "__module__" 300 (hS "eth_abi.grammar" 227),hE P "__firstlineno__" 304 (.int 71 303),hE P "__init__" 312 (.ref 97),hE P "__eq__" 320 (.ref 104),hE P "to_type_str" 327 (.ref 111),hE P "item_type" 335 (.ref 119),hE P "validate" 342 (.ref 126),hE P "invalidate" 350 (.ref 133),hE P "is_array" 358 (.ref 141),hE P "is_dynamic" 366 (.ref 149),hE P "_has_dynamic_arrlist" 374 (.ref 157),hE P "__static_attributes__" 376 (.ref 158),hE P "__dict__" 378 (.ref 161),hE P "__weakref__" 380 (.ref 162),hE P "__doc__" 381 (.none),hE P "__hash__" 382 (.none)] 5}),
 (160,{cls:= .type "type",data:= .cls {name:= "ABIType",bases:=[.type "object"],mro:=[.ref 160, .type "object"],ns:=159,qualname:= "ABIType",subclasses:=[.ref 214, .ref 266]},slots:= #[none,none,some (hS "ABIType" 293),some (hS "ABIType" 301),some (.builtin "object.__new__"),some (.bool true)]}),
 (168,{cls:= .type "cell",data:= .cell (some (.ref 214))}),
 (173,{cls:= .type "tuple",data:= .seq #[.none]}),
 hC 180 (am (ag 13) 0) "TupleType.__init__" 397 404 106 false,
 hF 181 (am (ag 13) 0) "TupleType.__init__" hG (.ref 173) [("__class__",168)] (.ref 174),
 hC 187 (am (ag 13) 1) "TupleType.to_type_str" 407 412 111 false,
 hF 188 (am (ag 13) 1) "TupleType.to_type_str" hG .none [] .none,
 hC 194 (am (ag 13) 2) "TupleType.item_type" 415 419 119 false,
 hF 195 (am (ag 13) 2) "TupleType.item_type" hG .none [] .none,
 (196,{cls:= .type "property",data:= .fields #[.ref 195, .none, .none, .none,hS "item_type" 422, .bool false]}),
 hC 202 (am (ag 13) 3) "TupleType.validate" 423 428 125 false,
 hF 203 (am (ag 13) 3) "TupleType.validate" hG .none [] .none,
 hC 209 (am (ag 13) 4) "TupleType.is_dynamic" 431 435 129 false,
 hF 210 (am (ag 13) 4) "TupleType.is_dynamic" hG .none [] .none,
 (211,{cls:= .type "property",data:= .fields #[.ref 210, .none, .none, .none,hS "is_dynamic" 438, .bool false]}),
 (213,{cls:= .type "dict",data:= .dict #[hE P "__module__" 392 (hS "eth_abi.grammar" 227),hE P "__firstlineno__" 396 (.int 104 395),hE P "__init__" 406 (.ref 181),hE P "to_type_str" 414 (.ref 188),hE P "item_type" 422 (.ref 196),hE P "validate" 430 (.ref 203),hE P "is_dynamic" 438 (.ref 211),hE P "__static_attributes__" 440 (.ref 212),hE P "__doc__" 442 (.none)] 3}),
 (214,{cls:= .type "type",data:= .cls {name:= "TupleType",bases:=[.ref 160],mro:=[.ref 214, .ref 160, .type "object"],ns:=213,qualname:= "TupleType" },slots:= #[some (.ref 165),none,some (hS "TupleType" 385),some (hS "TupleType" 393),some (.builtin "object.__new__"),some (.bool true)]}),
 (220,{cls:= .type "cell",data:= .cell (some (.ref 266))}),
 (225,{cls:= .type "tuple",data:= .seq #[.none, .none]}),
 hC 232 (am (ag 14) 0) "BasicType.__init__" 457 465 136 false,
 hF 233 (am (ag 14) 0) "BasicType.__init__" hG (.ref 225) [("__class__",220)] (.ref 226),
 hC 239 (am (ag 14) 1) "BasicType.to_type_str" 468 474 143 false,
 hF 240 (am (ag 14) 1) "BasicType.to_type_str" hG .none [] .none,
 hC 246 (am (ag 14) 2) "BasicType.item_type" 477 481 157 false,
 hF 247 (am (ag 14) 2) "BasicType.item_type" hG .none [] .none,
 (248,{cls:= .type "property",data:= .fields #[.ref 247, .none, .none, .none,hS "item_type" 484, .bool false]}),
 hC 254 (am (ag 14) 3) "BasicType.is_dynamic" 485 489 163 false,
 hF 255 (am (ag 14) 3) "BasicType.is_dynamic" hG .none [] .none,
 (256,{cls:= .type "property",data:= .fields #[.ref 255, .none, .none, .none,hS "is_dynamic" 492, .bool false]}),
 hC 262 (am (ag 14) 4) "BasicType.validate" 493 501 173 false,
 hF 263 (am (ag 14) 4) "BasicType.validate" hG .none [] .none,
 (265,{cls:= .type "dict",data:= .dict #[hE P "__module__" 452 (hS "eth_abi.grammar" 227),hE P "__firstlineno__" 456 (.int 134 455),hE P "__init__" 467 (.ref 233),hE P "to_type_str" 476 (.ref 240),hE P "item_type" 484 (.ref 248),hE P "is_dynamic" 492 (.ref 256),hE P "validate" 503 (.ref 263),hE P "__static_attributes__" 506 (.ref 264),hE P "__doc__" 508 (.none)] 3}),
 (266,{cls:= .type "type",data:= .cls {name:= "BasicType",bases:=[.ref 160],mro:=[.ref 266, .ref 160, .type "object"],ns:=265,qualname:= "BasicType" },slots:= #[some (.ref 217),none,some (hS "BasicType" 445),some (hS "BasicType" 453),some (.builtin "object.__new__"),some (.bool true)]}),
 hC 274 (ag 16) "_law_names" 513 516 207 false,
 hF 275 (ag 16) "_law_names" hL .none [] .none,
 hC 281 (ag 17) "_law_subs" 519 522 209 false,
 hF 282 (ag 17) "_law_subs" hL .none [] .none,
 hC 288 (ag 18) "_law_marks" 525 528 211 false,
 hF 289 (ag 18) "_law_marks" hL .none [] .none,
 hC 295 (ag 19) "_law_take" 531 535 213 false,
 hF 296 (ag 19) "_law_take" hL .none [] .none,
 hC 300 (ag 20) "_law_tree" 538 541 217 true,
 hF 301 (ag 20) "_law_tree" hL .none [] .none,
 hC 305 (ag 21) "_law_number" 544 547 226 true,
 hF 306 (ag 21) "_law_number" hL .none [] .none,
 hC 312 (ag 22) "_law_parts" 550 557 233 false,
 hF 313 (ag 22) "_law_parts" hL .none [] .none,
 hC 317 (ag 23) "_law_name" 560 563 246 true,
 hF 318 (ag 23) "_law_name" hL .none [] .none,
 hC 322 (ag 24) "_law_read" 566 569 259 true,
 hF 323 (ag 24) "_law_read" hL .none [] .none,
 hC 327 (ag 25) "_law_varies" 572 575 277 true,
 hF 328 (ag 25) "_law_varies" hL .none [] .none,
 hC 332 (ag 26) "_law_valid" 578 581 283 true,
 hF 333 (ag 26) "_law_valid" hL .none [] .none,
 hC 339 (ag 27) "_law_told" 584 588 296 false,
 hF 340 (ag 27) "_law_told" hL .none [] .none,
 hC 344 (ag 28) "_law_agrees" 591 594 303 true,
 hF 345 (ag 28) "_law_agrees" hL .none [] .none,
 hC 351 (ag 29) "law" 597 608 332 false,
 hF 352 (ag 29) "law" hL .none [] .none]
noncomputable def w7:List Addr:=[2,3,23,24,36,37,46,47,53,54,60,61,67,68,74,75,81,82,90,96,97,103,104,110,111,117,118,119,125,126,132,133,139,140,141,147,148,149,155,156,157,159,160,168,173,180,181,187,188,194,195,196,202,203,209,210,211,213,214,220,225,232,233,239,240,246,247,248,254,255,256,262,263,265,266,274,275,281,282,288,289,295,296,300,301,305,306,312,313,317,318,322,323,327,328,332,333,339,340,344,345,351,352]
end
section
noncomputable def m0(ok:Thread->Bool)(st:ot->Thread->Option (ot×Thread)):Nat->ot->Thread->Option ot
 |0,_,_=>none
 |n+1,s,t=>match through t with
  |true=>some s
  |false=>match ok t with
   |false=>none
   |true=>match st s t with
    |some (s',t')=>m0 ok st n s' t'
    |none=>none
theorem w8{tb:String->Option Builtin}{p:j8}{w:fb}{n₀:Nat}{ann:Option ae}:∀(n:Nat) {s s':ot} {t:Thread},m0 (stepOk n₀ ann) (stepT (denote tb) p w) n s t=some s'->topRun tb p w n₀ ann n s.abs t=some s'.abs
 |0,_,_,_,h=>by cases h
 |n+1,s,s',t,h=>by
  unfold m0 at h
  unfold topRun
  cases he:through t with
  |true=>rw[he]at h;cases h;rfl
  |false=>
   rw[he]at h
   cases hk:stepOk n₀ ann t with
   |false=>rw[hk]at h;cases h
   |true=>
    rw[hk]at h
    cases hs:stepT (denote tb) p w s t with
    |none=>rw[hs]at h;cases h
    |some r=>obtain⟨s₂,t₂⟩:=r;rw[hs]at h;rw[stepT_spec hs];exact w8 n h
noncomputable def Ez(P:ak):BT:= .node (boot_o_0 P) (.node (boot_o_1 P) (.node (boot_o_3 P) (.node (boot_o_7 P) .nil .nil) .nil) (.node (boot_o_5 P) (.node (boot_o_9 P) .nil .nil) .nil)) (.node (boot_o_2 P) (.node (boot_o_4 P) (.node (boot_o_8 P) .nil .nil) .nil) (.node (boot_o_6 P) (.node (boot_o_10 P) .nil .nil) .nil))
noncomputable def s5(P:ak)(os:ii):ot:=⟨Ez P,11,(gi P).life,ou [],ow,oy,os⟩
theorem EA(P:ak)(os:ii):(s5 P os).abs=⟨gi P,ou [],ow,oy,os⟩:=by kernel_rfl
theorem EB(P:ak):(gi P).isNs mainGlobals=true:=by kernel_rfl
theorem EC(P:ak):(gi P).objs.size=11:=by kernel_rfl
theorem ED(P:ak):(gi P).nsMap mainGlobals "__annotations__" =some (.ref 6):=by kernel_rfl
theorem EE{p q:j8}{loose:List Str}{Xt:ah->Bool}{α:Type}{Yf:ah->α}{Ya:fb->α}{N:Nat}{g0:Bool}
  (o:∀w:fb,(fencedOpening treeTable p w N).map (λs=>(s.heap,s.gens,s.drawn,s.toks))=some (gi w.params,ou [],ow,oy))
  (h:∀w:fb,(λos=>(m0 (stepOk 11 (some (.ref 6))) (stepT (denote treeTable) p w) N (s5 w.params os) (topStub p)).map (λS=>(staticsOk (importedModules p.main.body) (gi w.params) S.abs.heap&&namesBound p S.abs.heap&&gensDone S.abs&&laidKept (gi w.params) S.abs.heap,openSeen q loose (importedModules p.main.body) Xt g0 S.abs,Yf S.abs)))=λø=>some (true,openGood q loose,Ya w)):LeftO p q loose Xt Yf Ya N g0:=λw=>by
 obtain⟨⟨hp,gs,d,k,os⟩,e,e'⟩:=my.mp (o w)
 obtain⟨rfl,rfl,rfl,rfl⟩:hp=gi w.params/\ gs=ou []/\ d=ow/\ k=oy:=by simpa using e'
 obtain⟨S,hS,l⟩:=my.mp (congrFun (h w) os)
 obtain⟨l1,l2,l3⟩:_/\ _/\ _:=by simpa only[Prod.mk.injEq] using l
 have r:=w8 N hS
 rw[EA]at r
 have t:topFrom treeTable p w N ⟨gi w.params,ou [],ow,oy,os⟩=some S.abs:=by
  unfold topFrom
  dsimp only
  rw[EB,EC,ED,r]
  show(match staticsOk (importedModules p.main.body) (gi w.params) S.abs.heap&&namesBound p S.abs.heap&&gensDone S.abs&&laidKept (gi w.params) S.abs.heap with|true=>_|false=>_)=_
  rw[l1]
 unfold openEnds
 rw[e]
 show(topFrom treeTable p w N _).map _=_
 rw[t]
 exact congrArg some (Prod.ext l2 l3)
theorem EF:∀P,w7=(HK P).map (·.1):=λø=>by kernel_rfl
noncomputable abbrev hH:Hook:=kmHook HK w7 EF [151,183,205,235]
noncomputable def vw:j8:=view ig [1,2,4,5,6,7,8,9,10,11,12,13,14,16,17,18,19,20,21,22,23,24,25,26,27,28,29]
end
section
theorem EG:∀w:fb,(λos=>(m0 (stepOk 11 (some (.ref 6))) (stepT (denote treeTable) gx.row.toRowW.prog w) 5602 (s5 w.params os) (topStub gx.row.toRowW.prog)).map (λS=>(staticsOk (importedModules gx.row.toRowW.prog.main.body) (gi w.params) S.abs.heap&&namesBound gx.row.toRowW.prog S.abs.heap&&gensDone S.abs&&laidKept (gi w.params) S.abs.heap,openSeen vw ["ABIType", "TupleType", "BasicType"] (importedModules gx.row.toRowW.prog.main.body) (λs=>xlAt vw [] s&&recOk (CM gx.row.toRowW) s) true S.abs,Hook.obs hH S.abs)))=λø=>some (true,openGood vw ["ABIType", "TupleType", "BasicType"],Hook.val hH w):=by
 rw[Fast.te4187177175401517315,Fast.te5923862056798008813,Fast.te2368527892694137696,Fast.te14364793385576792824,Fast.te10156331382660048174,Fast.te11892475500146522536,Fast.te6613529449190102663]
 intro w
 kernel_rfl
end
section
noncomputable abbrev pq:j8:=gx.row.toRowW.prog
theorem o1:opening pq=plainProg pq.main.scope.names:=by kernel_rfl
theorem o2:∀s,fenceModules? pq s=some s:=λs=>by kernel_rfl
theorem o3:∀w:fb,(fencedOpening treeTable pq w 5602).map (λs=>(s.heap,s.gens,s.drawn,s.toks))=some (gi w.params,ou [],ow,oy):=boot_open o1 (by decide) o2
theorem EH:LeftO pq vw ["ABIType", "TupleType", "BasicType"] (λs=>xlAt vw [] s&&recOk (CM gx.row.toRowW) s) (Hook.obs hH) (Hook.val hH) 5602 true:=EE o3 EG
end
section
structure Wd where
 w:fb
 base:Heap
 K:Frag
 mg:Str->Option ae
 mb:Str->Option ae
 clsA:aY->Addr
 excA:XC->ae
 tabs:List (Addr×Addr)
noncomputable abbrev Wd.M(W:Wd):Model:=model ig W.w
mutual
inductive Rep(W:Wd)(X:Addr->Prop)(h:Heap):ae->PV->Prop
 |none:Rep W X h .none .none
 |bool (b:Bool):Rep W X h (.bool b) (.bool b)
 |int (i:Int) (t:bE):Rep W X h (.int i t) (.int i)
 |str (x:Str) (t:bE):Rep W X h (.str x t) (.str (an x))
 |tuple {a:Addr} {o:Obj} {vs:Array ae} {n:Nat} {xs:List PV}:h.get? a=some o->o.cls= .type "tuple" ->o.data= .seq vs n->¬X a->a8 W X h vs.toList xs->Rep W X h (.ref a) (.tuple xs)
 |list {a:Addr} {o:Obj} {vs:Array ae} {n:Nat} {xs:List PV}:h.get? a=some o->o.cls= .type "list" ->o.data= .seq vs n->¬X a->a8 W X h vs.toList xs->Rep W X h (.ref a) (.list xs)
 |inst {x d:Addr} {c:aY} {es:List eO} {n:Nat} {fs:List (Str×PV)}:h.get? x=some (instObj (W.clsA c) d)->h.get? d=some (dictOf es n)->¬X x->¬X d->dg W X h es fs->Rep W X h (.ref x) (.inst c fs)
inductive a8(W:Wd)(X:Addr->Prop)(h:Heap):List ae->List PV->Prop
 |nil:a8 W X h [] []
 |cons {v:ae} {vs:List ae} {p:PV} {ps:List PV}:Rep W X h v p->a8 W X h vs ps->a8 W X h (v::vs) (p::ps)
inductive dg(W:Wd)(X:Addr->Prop)(h:Heap):List eO->List (Str×PV)->Prop
 |nil:dg W X h [] []
 |cons {hs:Int} {y:Str} {t:bE} {v:ae} {es:List eO} {p:PV} {fs:List (Str×PV)}:Rep W X h v p->dg W X h es fs->dg W X h (⟨hs, .str y t,v⟩::es) ((y,p)::fs)
end
theorem Rep.mono{W:Wd}{X X':Addr->Prop}{h h':Heap}(hk:∀b o,¬X b->h.get? b=some o->h'.get? b=some o)(hx:∀b o,h.get? b=some o->¬X b->¬X' b){v:ae}{p:PV}(r:Rep W X h v p):Rep W X' h' v p:=
 Rep.rec (motive_1:=λv p ø=>Rep W X' h' v p) (motive_2:=λvs ps ø=>a8 W X' h' vs ps) (motive_3:=λes fs ø=>dg W X' h' es fs)
  .none .bool .int .str (λe c d n ø r=> .tuple (hk _ _ n e) c d (hx _ _ e n) r) (λe c d n ø r=> .list (hk _ _ n e) c d (hx _ _ e n) r) (λe d n m ø r=> .inst (hk _ _ n e) (hk _ _ m d) (hx _ _ e n) (hx _ _ d m) r)
  .nil (λø ø r rs=> .cons r rs) .nil (λø ø r rs=> .cons r rs) r
section
variable{W:Wd}{X:Addr->Prop}{h:Heap}
theorem a8.ind{M:List ae->List PV->Prop}(n:M [] [])(c:∀{v vs p ps},Rep W X h v p->a8 W X h vs ps->M vs ps->M (v::vs) (p::ps)){vs:List ae}{ps:List PV}(r:a8 W X h vs ps):M vs ps:=
 a8.rec (motive_1:=λø ø ø=>True) (motive_2:=λvs ps ø=>M vs ps) (motive_3:=λø ø ø=>True) trivial (λø=>trivial) (λø ø=>trivial) (λø ø=>trivial) (λø ø ø ø ø ø=>trivial) (λø ø ø ø ø ø=>trivial) (λø ø ø ø ø ø=>trivial)
  n (λa b ø i=>c a b i) trivial (λø ø ø ø=>trivial) r
theorem dg.ind{M:List eO->List (Str×PV)->Prop}(n:M [] [])(c:∀{hs y t v es p fs},Rep W X h v p->dg W X h es fs->M es fs->M (⟨hs, .str y t,v⟩::es) ((y,p)::fs)){es:List eO}{fs:List (Str×PV)}(r:dg W X h es fs):M es fs:=
 dg.rec (motive_1:=λø ø ø=>True) (motive_2:=λø ø ø=>True) (motive_3:=λes fs ø=>M es fs) trivial (λø=>trivial) (λø ø=>trivial) (λø ø=>trivial) (λø ø ø ø ø ø=>trivial) (λø ø ø ø ø ø=>trivial) (λø ø ø ø ø ø=>trivial)
  trivial (λø ø ø ø=>trivial) n (λa b ø i=>c a b i) r
end
theorem a8.mono{W:Wd}{X X':Addr->Prop}{h h':Heap}(hk:∀b o,¬X b->h.get? b=some o->h'.get? b=some o)(hx:∀b o,h.get? b=some o->¬X b->¬X' b){vs:List ae}{ps:List PV}(r:a8 W X h vs ps):a8 W X' h' vs ps:=r.ind .nil λa ø i=> .cons (a.mono hk hx) i
theorem dg.mono{W:Wd}{X X':Addr->Prop}{h h':Heap}(hk:∀b o,¬X b->h.get? b=some o->h'.get? b=some o)(hx:∀b o,h.get? b=some o->¬X b->¬X' b){es:List eO}{fs:List (Str×PV)}(r:dg W X h es fs):dg W X' h' es fs:=r.ind .nil λa ø i=> .cons (a.mono hk hx) i
section
variable{W:Wd}{X:Addr->Prop}{h:Heap}{v:ae}
theorem Rep.noneI(r:Rep W X h v .none):v= .none:=by cases r;rfl
theorem Rep.boolI{b:Bool}(r:Rep W X h v (.bool b)):v= .bool b:=by cases r;rfl
theorem Rep.intI{i:Int}(r:Rep W X h v (.int i)):∃t,v= .int i t:=by cases r;exact⟨_,rfl⟩
theorem Rep.intE{i:Int}(r:Rep W X h v (.int i)){G:Prop}(k:∀t,v= .int i t->G):G:=by cases r;exact k _ rfl
theorem Rep.strE{s:List Nat}(r:Rep W X h v (.str s)){G:Prop}(k:∀x t,s=an x->v= .str x t->G):G:=by cases r;exact k _ _ rfl rfl
theorem Rep.tupE{xs:List PV}(r:Rep W X h v (.tuple xs)){G:Prop}(k:∀a o vs n,v= .ref a->h.get? a=some o->o.cls= .type "tuple" ->o.data= .seq vs n->¬X a->a8 W X h vs.toList xs->G):G:=by
 cases r with
 |tuple e c d n r=>exact k _ _ _ _ rfl e c d n r
theorem Rep.lisE{xs:List PV}(r:Rep W X h v (.list xs)){G:Prop}(k:∀a o vs n,v= .ref a->h.get? a=some o->o.cls= .type "list" ->o.data= .seq vs n->¬X a->a8 W X h vs.toList xs->G):G:=by
 cases r with
 |list e c d n r=>exact k _ _ _ _ rfl e c d n r
theorem Rep.instE{c:aY}{fs:List (Str×PV)}(r:Rep W X h v (.inst c fs)){G:Prop}(k:∀x d es n,v= .ref x->h.get? x=some (instObj (W.clsA c) d)->h.get? d=some (dictOf es n)->¬X x->¬X d->dg W X h es fs->G):G:=by
 cases r with
 |inst e d n m r=>exact k _ _ _ _ rfl e d n m r
theorem Rep.strI{s:List Nat}(r:Rep W X h v (.str s)):∃x t,s=an x/\ v= .str x t:=by cases r;exact⟨_,_,rfl,rfl⟩
theorem Rep.tupI{xs:List PV}(r:Rep W X h v (.tuple xs)):∃a o vs n,v= .ref a/\ h.get? a=some o/\ o.cls= .type "tuple" /\ o.data= .seq vs n/\ ¬X a/\ a8 W X h vs.toList xs:=by
 cases r with
 |tuple e c d n r=>exact⟨_,_,_,_,rfl,e,c,d,n,r⟩
theorem Rep.lisI{xs:List PV}(r:Rep W X h v (.list xs)):∃a o vs n,v= .ref a/\ h.get? a=some o/\ o.cls= .type "list" /\ o.data= .seq vs n/\ ¬X a/\ a8 W X h vs.toList xs:=by
 cases r with
 |list e c d n r=>exact⟨_,_,_,_,rfl,e,c,d,n,r⟩
theorem Rep.instI{c:aY}{fs:List (Str×PV)}(r:Rep W X h v (.inst c fs)):∃x d es n,v= .ref x/\ h.get? x=some (instObj (W.clsA c) d)/\ h.get? d=some (dictOf es n)/\ ¬X x/\ ¬X d/\ dg W X h es fs:=by
 cases r with
 |inst e d n m r=>exact⟨_,_,_,_,rfl,e,d,n,m,r⟩
theorem a8.consE{vs:List ae}{p:PV}{ps:List PV}(r:a8 W X h vs (p::ps)){G:Prop}(k:∀v ws,vs=v::ws->Rep W X h v p->a8 W X h ws ps->G):G:=by
 cases r with
 |cons a b=>exact k _ _ rfl a b
theorem a8.consI{vs:List ae}{p:PV}{ps:List PV}(r:a8 W X h vs (p::ps)):∃v ws,vs=v::ws/\ Rep W X h v p/\ a8 W X h ws ps:=by
 cases r with
 |cons a b=>exact⟨_,_,rfl,a,b⟩
theorem a8.nilI{vs:List ae}(r:a8 W X h vs []):vs=[]:=by cases r;rfl
end
theorem a8.length{W:Wd}{X:Addr->Prop}{h:Heap}{vs:List ae}{ps:List PV}(r:a8 W X h vs ps):vs.length=ps.length:=r.ind (M:=λvs ps=>vs.length=ps.length) rfl λø ø i=>congrArg (· +1) i
theorem a8.append{W:Wd}{X:Addr->Prop}{h:Heap}{vs ws:List ae}{ps qs:List PV}(r:a8 W X h vs ps)(k:a8 W X h ws qs):a8 W X h (vs++ws) (ps++qs):=r.ind (M:=λvs ps=>a8 W X h (vs++ws) (ps++qs)) k λa ø i=> .cons a i
theorem a8.get{W:Wd}{X:Addr->Prop}{h:Heap}{vs:List ae}{ps:List PV}(r:a8 W X h vs ps){i:Nat}{p:PV}(e:ps[i]? =some p):∃v,vs[i]? =some v/\ Rep W X h v p:=
 r.ind (M:=λvs ps=>∀i,ps[i]? =some p->∃v,vs[i]? =some v/\ Rep W X h v p) (λø e=>al e) (λa ø ih i e=>by
  cases i with
  |zero=>obtain rfl:=aq e;exact⟨_,rfl,a⟩
  |succ i=>exact ih i e) i e
noncomputable def cY(a b:Array gy):Prop:=a.size<=b.size/\ ∀k,k<a.size->b[k]? =a[k]?
theorem cY.refl(a:Array gy):cY a a:=⟨bO _,λø ø=>rfl⟩
theorem cY.trans{a b c:Array gy}(x:cY a b)(y:cY b c):cY a c:=⟨ao x.1 y.1,λk hk=>(y.2 k (eN hk x.1)).trans (x.2 k hk)⟩
noncomputable def lM(W:Wd)(h:Heap):Prop:=∀q∈W.tabs,∃ps,h.IsCode q.1 q.2 ps/\ h.TableAt q.1 q.2 ps
structure Inv(W:Wd)(s:ah):Prop where
 stays:W.base.StaysIn s.heap
 tabs:lM W s.heap
 gens:AllBare s.gens
noncomputable def fq:List String:=["list", "tuple", "list_iterator", "tuple_iterator", "str_ascii_iterator", "str_iterator", "generator"]
noncomputable def dh(o:Obj):Prop:=(∃T∈fq,o.cls= .type T)/\ ∀es ep,o.data≠ .dict es ep
structure After(W:Wd)(X:Addr->Prop)(s s':ah):Prop where
 inv:Inv W s'
 keep:∀b o,¬X b->s.heap.get? b=some o->s'.heap.get? b=some o
 ns:∀L m,s.heap.Ns L m->s'.heap.Ns L m
 gens:cY s.gens s'.gens
 os:s'.os=s.os
 drawn:s'.drawn=s.drawn
 live:∀b o,s.heap.get? b=some o->∃o',s'.heap.get? b=some o'
 solid:∀b o,dh o->s.heap.get? b=some o->s'.heap.get? b=some o
theorem After.refl{W:Wd}{X:Addr->Prop}{s:ah}(I:Inv W s):After W X s s:=⟨I,λø ø ø e=>e,λø ø e=>e,cY.refl _,rfl,rfl,λø o e=>⟨o,e⟩,λø ø ø e=>e⟩
theorem After.trans{W:Wd}{X:Addr->Prop}{s s' s'':ah}(x:After W X s s')(y:After W X s' s''):After W X s s'':=
 ⟨y.inv,λb o n e=>y.keep b o n (x.keep b o n e),λL m e=>y.ns L m (x.ns L m e),x.gens.trans y.gens,y.os.trans x.os,y.drawn.trans x.drawn,λb o e=>by obtain⟨o',e'⟩:=x.live b o e;exact y.live b o' e',λb o t e=>y.solid b o t (x.solid b o t e)⟩
theorem After.rep{W:Wd}{X:Addr->Prop}{s s':ah}(x:After W X s s'){v:ae}{p:PV}(r:Rep W X s.heap v p):Rep W X s'.heap v p:=r.mono x.keep λø ø ø n=>n
theorem After.reps{W:Wd}{X:Addr->Prop}{s s':ah}(x:After W X s s'){v:List ae}{p:List PV}(r:a8 W X s.heap v p):a8 W X s'.heap v p:=r.mono x.keep λø ø ø n=>n
theorem After.weaken{W:Wd}{X X':Addr->Prop}{s s':ah}(x:After W X s s')(hx:∀b o,s.heap.get? b=some o->¬X' b->¬X b):After W X' s s':=
 ⟨x.inv,λb o n e=>x.keep b o (hx b o e n) e,x.ns,x.gens,x.os,x.drawn,x.live,x.solid⟩
noncomputable def pd(W:Wd)(X:Addr->Prop)(l:List av)(h:Heap):Prop:=
 ∀env∈l,env.scope.kind≠ .module/\ ∃L m,env.frame=some L/\ W.base.get? L=none/\ h.Ns L m/\ X L
theorem pd.after{W:Wd}{X:Addr->Prop}{l:List av}{s s':ah}(f:pd W X l s.heap)(x:∀L m,s.heap.Ns L m->∃m',s'.heap.Ns L m'):pd W X l s'.heap:=λenv he=>by
 refine gW (f env he) λhk L m e1 e2 e3 e4=> ?_
 refine xE (x L m e3) λm' e3' => ?_
 exact⟨hk,L,m',e1,e2,e3',e4⟩
structure Ready(W:Wd)(X:Addr->Prop)(A:aA)(l:List av)(s:ah):Prop where
 inv:Inv W s
 frames:A.frames=some l
 guards:A.guards=some []
 handled:A.handled=none
 below:pd W X l s.heap
 xtabs:∀q∈W.tabs,X q.2
 xbase:∀b o,W.base.get? b=some o->¬X b
 xlt:∀b,X b->∃o,s.heap.get? b=some o
theorem Ready.after{W:Wd}{X:Addr->Prop}{A:aA}{l:List av}{s s':ah}(r:Ready W X A l s)(x:After W X s s'):Ready W X A l s':=
 ⟨x.inv,r.frames,r.guards,r.handled,r.below.after λL m e=>⟨m,x.ns L m e⟩,r.xtabs,r.xbase,λb hb=>by obtain⟨o,e⟩:=r.xlt b hb;exact x.live b o e⟩
noncomputable def m8(W:Wd)(X:Addr->Prop)(h:Heap)(L:Addr)(ρ:aj):Prop:=
 X L/\ ∃m,h.Ns L m/\ ∀x p,ρ.lookup x=some p->∃v,m x=some v/\ Rep W X h v p
theorem m8.after{W:Wd}{X:Addr->Prop}{s s':ah}{L:Addr}{ρ:aj}(r:m8 W X s.heap L ρ)(x:After W X s s'):m8 W X s'.heap L ρ:=by
 refine dJ r λhX m hn hv=> ?_
 exact⟨hX,m,x.ns L m hn,λy p e=>by obtain⟨v,e1,e2⟩:=hv y p e;exact⟨v,e1,x.rep e2⟩⟩
structure PO(W:Wd)(gen:Bool)(sc:Scope)(env:av):Prop where
 scope:env.scope=sc
 kind:sc.kind= .function
 globals:env.globals=mainGlobals
 builtins:env.builtins=builtinsNs
 code:gen=true->∃c P,env.code= .ref c/\ (c,P)∈W.tabs
 nocell:∀y∈sc.names,y.2≠ .cell
noncomputable def pe(sc:Scope)(ρ:aj):Prop:=∀x p,ρ.lookup x=some p->sc.names.lookup x=some .local
structure f0(W:Wd)(X:Addr->Prop)(l:List av)(e:Addr)(c:XC)(s s':ah):Prop where
 fly:∃B a0,(∀b o,¬X b->s.heap.get? b=some o->B.get? b=some o)/\ (∀b o,s.heap.get? b=some o->(∃o',B.get? b=some o') \/b∈l.filterMap (·.frame))/\
  (∀b o,dh o->s.heap.get? b=some o->B.get? b=some o)/\ W.base.StaysIn B/\ lM W B/\ vI B l e (W.excA c) a0 s'.heap
 ns:∀L m,s.heap.Ns L m->s'.heap.Ns L m
 gens:AllBare s'.gens/\ cY s.gens s'.gens
 os:s'.os=s.os
 drawn:s'.drawn=s.drawn
theorem lM.keeps{W:Wd}{h h':Heap}(t:lM W h)(k:∀b o,h.get? b=some o->h'.get? b=some o):lM W h':=λq hq=>by
 refine ay (t q hq) λps a b=> ?_
 exact⟨ps,a.keeps k,b.keeps k⟩
theorem f0.after{W:Wd}{X:Addr->Prop}{l:List av}{e:Addr}{c:XC}{s s':ah}(f:f0 W X l e c s s'):After W X s s':=by
 obtain⟨zn1,h5,h6,h8,h9⟩:=f
 refine mK zn1 λB a0 h1 h12 hs h2 h3 h4=> ?_
 refine⟨⟨λb o e=>h4.1 b o (h2 b o e),h3.keeps h4.1,h6.1⟩,λb o n e=>h4.1 b o (h1 b o n e),h5,h6.2,h8,h9,λb o e=> ?_,λb o t e=>h4.1 b o (hs b o t e)⟩
 rcases h12 b o e with ⟨o',e'⟩|hm
 ·exact⟨o',h4.1 _ _ e'⟩
 ·refine dJ (h4.2.2.1.mem hm) λø o' e' ø=> ?_
  exact⟨o',e'⟩
theorem f0.before{W:Wd}{X:Addr->Prop}{l:List av}{e:Addr}{c:XC}{s₀ s s':ah}(x:After W X s₀ s)(f:f0 W X l e c s s'):f0 W X l e c s₀ s':=by
 obtain⟨zn2,h5,h6,h8,h9⟩:=f
 refine mK zn2 λB a0 h1 h12 hs h2 h3 h4=> ?_
 refine⟨⟨B,a0,λb o n e=>h1 b o n (x.keep b o n e),λb o e=> ?_,λb o t e=>hs b o t (x.solid b o t e),h2,h3,h4⟩,λL m e=>h5 L m (x.ns L m e),⟨h6.1,x.gens.trans h6.2⟩,h8.trans x.os,h9.trans x.drawn⟩
 refine xE (x.live b o e) λo' e' => ?_
 exact h12 b o' e'
noncomputable def PP(W:Wd)(n:Nat)(f:ae)(args:List PV)(r:Res PV):Prop:=
 ∀(A:aA) (l:List av) (s:ah) (X:Addr->Prop) (vs:List ae) (Q E:ae->ah->Prop),Ready W X A l s->A.depth+n<=900->A.units+10*n<=9000->a8 W X s.heap vs args->
  (∀v p s',r= .ok p->After W X s s'->Rep W X s'.heap v p->Q v s')->
  (∀e c s',r= .exc c->f0 W X l e c s s'->E (.ref e) s')->
  wpAny W.M A (call f vs) Q E s
noncomputable def PQ(W:Wd)(n:Nat)(t:Sem ae)(s:ah)(X:Addr->Prop)(A:aA)(l:List av)(r:Res PV):Prop:=
 ∀(Q E:ae->ah->Prop),A.depth+n<=900->A.units+10*n<=9000->
  (∀v p s',r= .ok p->After W X s s'->Rep W X s'.heap v p->Q v s')->
  (∀e c s',r= .exc c->f0 W X l e c s s'->E (.ref e) s')->wpAny W.M A t Q E s
noncomputable def PR(W:Wd)(n:Nat)(t:Sem Bool)(s:ah)(X:Addr->Prop)(A:aA)(l:List av)(r:Res Bool):Prop:=
 ∀(Q:Bool->ah->Prop) (E:ae->ah->Prop),A.depth+n<=900->A.units+10*n<=9000->
  (∀v s',r= .ok v->After W X s s'->Q v s')->
  (∀e c s',r= .exc c->f0 W X l e c s s'->E (.ref e) s')->wpAny W.M A t Q E s
end
section
theorem iX(x y:Str):an (x++y)=an x++an y:=by
 show(x.cps++y.cps).toList=_
 simp[an]
theorem bY(x:Str):(an x).length=x.length:=by simp[an,Str.length]
theorem EI{x y:Str}(h:an x=an y):x=y:=by
 cases x;cases y;simp[an]at h;rw[h]
theorem EJ(l:List Nat):an ⟨l.toArray⟩=l:=rfl
section
variable{W:Wd}{X:Addr->Prop}{s:ah}
theorem Inv.ext{s s':ah}(I:Inv W s)(k:∀b o,s.heap.get? b=some o->s'.heap.get? b=some o)(g:s'.gens=s.gens):Inv W s':=
 ⟨λb o e=>k b o (I.stays b o e),I.tabs.keeps k,g▸I.gens⟩
theorem After.of_keeps{h':Heap}{tk:Nat}(I:Inv W s)(k:∀b o,s.heap.get? b=some o->h'.get? b=some o):After W X s {s with heap:=h',toks:=tk}:=
 ⟨I.ext k rfl,λb o ø e=>k b o e,λø ø e=>e.keeps k,cY.refl _,rfl,rfl,λb o e=>⟨o,k b o e⟩,λb o ø e=>k b o e⟩
theorem After.tok(I:Inv W s){tk:Nat}:After W X s {s with toks:=tk}:=After.of_keeps (h':=s.heap) I (λø ø e=>e)
theorem After.push(I:Inv W s)(o:Obj){tk:Nat}:After W X s {s with heap:=s.heap.push o,toks:=tk}:=
 After.of_keeps I (λø ø e=>bX _ e)
end
noncomputable def eT(X:Addr->Prop)(s:ah):Prop:=∀b,X b->∃o,s.heap.get? b=some o
theorem eT.after{W:Wd}{X:Addr->Prop}{s s':ah}(x:eT X s)(a:After W X s s'):eT X s':=λb hb=>by obtain⟨o,e⟩:=x b hb;exact a.live b o e
theorem eT.fresh{X:Addr->Prop}{s:ah}(x:eT X s):¬X s.heap.objs.size:=λh=>by obtain⟨o,e⟩:=x _ h;exact jg _ (eA e)
noncomputable def s6(h:Heap)(L:Addr):List (Addr×Obj):=(iL h.objs.size).filterMap λb=>if b=L then none else(h.get? b).map λo=>(b,o)
theorem EK{h:Heap}{L b:Addr}{o:Obj}:(b,o)∈s6 h L↔b≠L/\ h.get? b=some o:=by
 unfold s6
 simp only[oz,ji]
 constructor
 ·intro zn1
  refine ay zn1 λa ø e=> ?_
  split at e
  ·exact al e
  ·rename_i hne
   cases q:h.get? a with
   |none=>rw[q]at e;exact al e
   |some x=>rw[q]at e;cases aq e;exact⟨hne,q⟩
 ·intro zn2
  refine xA zn2 λhne e=> ?_
  exact⟨b,eA e,by rw[if_neg hne,e];rfl⟩
noncomputable def s7:Heap:={}
theorem w9(b:Addr):s7.get? b=none:=rfl
theorem PT{h:Heap}{L:Addr}{m:Str->Option ae}(n:h.Ns L m):Fr s7 L h m:=⟨n,λb o e=>(by rw[w9]at e;cases e),dZ _⟩
theorem PU(h:Heap)(L:Addr):eE s7 L h (s6 h L):=λp hp=>by
 obtain⟨b,o⟩:=p
 refine xA (EK.mp hp) λh1 h2=> ?_
 exact⟨h2,h1,w9 b⟩
section
variable{W:Wd}{X:Addr->Prop}{A:aA}{s:ah}{Q E:ae->ah->Prop}
theorem m9(xl:eT X s){vs:List ae}{ps:List PV}(r:a8 W X s.heap vs ps):Rep W X (s.heap.push {cls:= .type "tuple",data:= .seq vs.toArray}) (.ref s.heap.objs.size) (.tuple ps):=
 .tuple (ee _ rfl) rfl rfl xl.fresh (by simpa using r.mono (λø ø ø e=>bX _ e) λø ø ø n=>n)
theorem s8(xl:eT X s){vs:List ae}{ps:List PV}(r:a8 W X s.heap vs ps):Rep W X (s.heap.push {cls:= .type "list",data:= .seq vs.toArray}) (.ref s.heap.objs.size) (.list ps):=
 .list (ee _ rfl) rfl rfl xl.fresh (by simpa using r.mono (λø ø ø e=>bX _ e) λø ø ø n=>n)
theorem f6:aX<=sizeLine:=by decide+kernel
theorem w'{i:Int}(h:small i=true):O5 i<=2^20:=by
 unfold O5
 split
 ·exact dZ _
 ·have h3:i.natAbs<=ir:=of_decide_eq_true h
  have hb:ir.log2+1<=2^20:=by decide+kernel
  have:i.natAbs.log2<=ir.log2:=by
   refine ck (oA ir.log2 i.natAbs.log2) (λh=> ?_) (λh=> ?_)
   ·exfalso
    have h4:i.natAbs≠0:=λq=>by rw[q]at h;simp at h
    exact absurd (ao ((Nat.le_log2 h4 (k:=ir.log2+1)).mp h) h3) (Nat.not_le.mpr Nat.lt_log2_self)
   ·exact h
  exact ao (fJ this) hb
theorem xa{a:PV}{x:List Nat}(h:gk a=some x):a= .str x:=by
 cases a with
 |str=>obtain rfl:=aq h;rfl
 |_=>exact al h
theorem s9{a:PV}{x:Int}(h:gl a=some x):a= .int x:=by
 cases a with
 |int=>obtain rfl:=aq h;rfl
 |_=>exact al h
theorem pg{a:PV}{x:List PV}(h:ko a=some x):a= .list x:=by
 cases a with
 |list=>obtain rfl:=aq h;rfl
 |_=>exact al h
theorem xb{a:PV}{x:List PV}(h:kq a=some x):a= .tuple x:=by
 cases a with
 |tuple=>obtain rfl:=aq h;rfl
 |_=>exact al h
theorem ng{h:Heap}{v:ae}{a:PV}{x:List Nat}(e:gk a=some x)(r:Rep W X h v a):∃y t,x=an y/\ v= .str y t:=by
 rw[xa e]at r;exact r.strI
theorem ni{h:Heap}{v:ae}{a:PV}{i:Int}(e:gl a=some i)(r:Rep W X h v a):∃t,v= .int i t:=by
 rw[s9 e]at r;exact r.intI
theorem ta{h:Heap}{vs:List ae}{as:List PV}{a:PV}(e:iQ as=some a)(r:a8 W X h vs as):∃v,vs=[v]/\ Rep W X h v a:=by
 match as,e,r with
 |[b],e,r=>
  refine r.consE λv ws zq2 r1 r2=> ?_;subst zq2
  obtain rfl:=r2.nilI
  obtain rfl:=aq e
  exact⟨v,rfl,r1⟩
theorem ek{α:Type}{c:Prop}[Decidable c]{a b:α}(e:(if c then some a else none)=some b):c/\ a=b:=by
 by_cases h:c
 ·rw[if_pos h]at e;exact⟨h,aq e⟩
 ·rw[if_neg h]at e;exact al e
theorem kx{α:Type}{c:Prop}[Decidable c]{a:Option α}{b:α}(e:(if c then a else none)=some b):c/\ a=some b:=by
 by_cases h:c
 ·rw[if_pos h]at e;exact⟨h,e⟩
 ·rw[if_neg h]at e;exact al e
theorem lN{a b:PV}{p:Int×Int}(h:gZ a b=some p):a= .int p.1/\ b= .int p.2:=by
 cases a with
 |int x=>cases b with
  |int y=>obtain rfl:=aq h;exact⟨rfl,rfl⟩
  |_=>exact al h
 |_=>exact al h
theorem xc{a b:PV}{p:Bool×Bool}(h:sw a b=some p):a= .bool p.1/\ b= .bool p.2:=by
 cases a with
 |bool x=>cases b with
  |bool y=>obtain rfl:=aq h;exact⟨rfl,rfl⟩
  |_=>exact al h
 |_=>exact al h
theorem nj{a b:PV}{p:List Nat×List Nat}(h:iP a b=some p):a= .str p.1/\ b= .str p.2:=by
 cases a with
 |str x=>cases b with
  |str y=>obtain rfl:=aq h;exact⟨rfl,rfl⟩
  |_=>exact al h
 |_=>exact al h
theorem ph{a b:PV}{p:List PV×List PV}(h:mU a b=some p):a= .tuple p.1/\ b= .tuple p.2:=by
 cases a with
 |tuple x=>cases b with
  |tuple y=>obtain rfl:=aq h;exact⟨rfl,rfl⟩
  |_=>exact al h
 |_=>exact al h
theorem pi{a b:PV}{p:List PV×List PV}(h:mV a b=some p):a= .list p.1/\ b= .list p.2:=by
 cases a with
 |list x=>cases b with
  |list y=>obtain rfl:=aq h;exact⟨rfl,rfl⟩
  |_=>exact al h
 |_=>exact al h
theorem EL{a b r:PV}(e:o5 a b=some r):(∃x y,a= .int x/\ b= .int y/\ r= .int (x+y)) \/(∃x y,a= .str x/\ b= .str y/\ x.length+y.length<=aX/\ r= .str (x++y)) \/(∃x y,a= .tuple x/\ b= .tuple y/\ x.length+y.length<=aX/\ r= .tuple (x++y)) \/(∃x y,a= .list x/\ b= .list y/\ x.length+y.length<=aX/\ r= .list (x++y)):=by
 unfold o5 at e
 cases h1:gZ a b with
 |some p=>rw[h1]at e;obtain rfl:=aq e;exact .inl ⟨_,_,(lN h1).1,(lN h1).2,rfl⟩
 |none=>
  cases h2:iP a b with
  |some p=>
   rw[h1,h2]at e
   have e:(if p.1.length+p.2.length<=aX then some (PV.str (p.1++p.2))else none)=some r:=e
   split at e
   ·rename_i hl;obtain rfl:=aq e;exact .inr (.inl ⟨_,_,(nj h2).1,(nj h2).2,hl,rfl⟩)
   ·exact al e
  |none=>
   cases h3:mU a b with
   |some p=>
    rw[h1,h2,h3]at e
    have e:(if p.1.length+p.2.length<=aX then some (PV.tuple (p.1++p.2))else none)=some r:=e
    split at e
    ·rename_i hl;obtain rfl:=aq e;exact .inr (.inr (.inl ⟨_,_,(ph h3).1,(ph h3).2,hl,rfl⟩))
    ·exact al e
   |none=>
    cases h4:mV a b with
    |some p=>
     rw[h1,h2,h3,h4]at e
     have e:(if p.1.length+p.2.length<=aX then some (PV.list (p.1++p.2))else none)=some r:=e
     split at e
     ·rename_i hl;obtain rfl:=aq e;exact .inr (.inr (.inr ⟨_,_,(pi h4).1,(pi h4).2,hl,rfl⟩))
     ·exact al e
    |none=>rw[h1,h2,h3,h4]at e;exact al e
theorem EM(I:Inv W s)(xl:eT X s){va vb:ae}{a b r:PV}(e:o5 a b=some r)(ra:Rep W X s.heap va a)(rb:Rep W X s.heap vb b)
  (h:∀v s',After W X s s'->Rep W X s'.heap v r->Q v s'):wpAny W.M A (binaryOp .Add va vb) Q E s:=by
 rcases EL e with ⟨x,y,rfl,rfl,rfl⟩|⟨x,y,rfl,rfl,hl,rfl⟩|⟨x,y,rfl,rfl,hl,rfl⟩|⟨x,y,rfl,rfl,hl,rfl⟩
 ·refine ra.intE λø zq=> ?_;subst zq;refine rb.intE λø zq=> ?_;subst zq
  exact PyProof.Rows.add_int (h _ _ (After.tok I) (.int _ _))
 ·refine ra.strE λx t zq2 zq3=> ?_;subst zq2 zq3
  refine rb.strE λy u zq2 zq3=> ?_;subst zq2 zq3
  rw[bY,bY]at hl
  refine SB.add (λt' k=> ?_) (ao hl f6)
  refine h _ _ (After.tok I) ?_
  rw[<-iX]
  exact .str _ _
 ·refine ra.tupE λt o vs n zq4 e1 c1 d1 n1 r1=> ?_;subst zq4
  refine rb.tupE λt2 o2 ws k zq4 e2 c2 d2 n2 r2=> ?_;subst zq4
  obtain⟨cls,dd,data,sl⟩:=o
  obtain⟨cls2,dd2,data2,sl2⟩:=o2
  dsimp only at c1 d1 c2 d2
  subst c1 d1 c2 d2
  have hsz:vs.size+ws.size<=sizeLine:=by
   have l1:=r1.length
   have l2:=r2.length
   rw[oC]at l1 l2
   rw[l1,l2];exact ao hl f6
  by_cases hv:vs.isEmpty=true
  ·refine vJ ⟨_,e1,rfl⟩ ⟨_,e2,rfl⟩ CN CO CP CQ (CR _ _)
    (tuple_addW0 t t2 vs ws n k dd dd2 sl sl2 hv) ⟨e1,e2,?_⟩
   have hv':vs= #[]:=by simpa using hv
   subst hv'
   cases r1
   exact h _ _ (After.refl I) (.tuple e2 rfl rfl n2 r2)
  ·by_cases hw:ws.isEmpty=true
   ·refine vJ ⟨_,e1,rfl⟩ ⟨_,e2,rfl⟩ CN CO CP CQ (CR _ _)
     (tuple_addW1 t t2 vs ws n k dd dd2 sl sl2 hv hw) ⟨e1,e2,?_⟩
    have hw':ws= #[]:=by simpa using hw
    subst hw'
    cases r2
    refine h _ _ (After.refl I) ?_
    rw[j9]
    exact .tuple e1 rfl rfl n1 r1
   ·refine vJ ⟨_,e1,rfl⟩ ⟨_,e2,rfl⟩ CN CO CP CQ (CR _ _)
     (tuple_addW2 t t2 vs ws n k dd dd2 sl sl2 hv hw hsz) ⟨e1,e2,?_⟩
    refine h _ _ (After.push I _) ?_
    have q:=m9 xl (r1.append r2)
    rw[show(vs.toList++ws.toList).toArray=vs++ws by simp]at q
    exact q
 ·refine ra.lisE λt o vs n zq4 e1 c1 d1 n1 r1=> ?_;subst zq4
  refine rb.lisE λt2 o2 ws k zq4 e2 c2 d2 n2 r2=> ?_;subst zq4
  obtain⟨cls,dd,data,sl⟩:=o
  obtain⟨cls2,dd2,data2,sl2⟩:=o2
  dsimp only at c1 d1 c2 d2
  subst c1 d1 c2 d2
  have hsz:vs.size+ws.size<=sizeLine:=by
   have l1:=r1.length
   have l2:=r2.length
   rw[oC]at l1 l2
   rw[l1,l2];exact ao hl f6
  refine vJ ⟨_,e1,rfl⟩ ⟨_,e2,rfl⟩ noFill_list_add seq_list_add PySem.F.slot_list_add PySem.F.entry_list_add (PySem.F.args_list_add_2 _ _) (list_addW t t2 vs ws n k dd dd2 sl sl2 hsz) ⟨e1,e2,?_⟩
  refine h _ _ (After.push I _) ?_
  have q:=s8 xl (r1.append r2)
  rw[show(vs.toList++ws.toList).toArray=vs++ws by simp]at q
  exact q
theorem jC(I:Inv W s)(xl:eT X s){op:mx}{va vb:ae}{a b r:PV}(e:bH op a b=some r)(ra:Rep W X s.heap va a)(rb:Rep W X s.heap vb b)
  (h:∀v s',After W X s s'->Rep W X s'.heap v r->Q v s'):wpAny W.M A (binaryOp op va vb) Q E s:=by
 cases op with
 |Add=>exact EM I xl e ra rb h
 |Sub=>
  refine eR e λp h1 zq2=> ?_;subst zq2
  refine xA (lN h1) λzq0 zq1=> ?_;subst zq0 zq1
  refine ra.intE λø zq=> ?_;subst zq;refine rb.intE λø zq=> ?_;subst zq
  exact PyProof.Rows.sub_int (h _ _ (After.tok I) (.int _ _))
 |Mult=>
  refine bl e λp h1 e2=> ?_
  refine xA (lN h1) λzq0 zq1=> ?_;subst zq0 zq1
  refine ra.intE λø zq=> ?_;subst zq;refine rb.intE λø zq=> ?_;subst zq
  split at e2
  ·rename_i hs
   obtain rfl:=aq e2
   refine xA (oE.mp hs) λh1 h2=> ?_
   exact PyProof.Rows.mul_int (h _ _ (After.tok I) (.int _ _)) (IntMulOk.of_bits (w' h1) (w' h2))
  ·exact al e2
 |Mod=>
  refine bl e λp h1 e2=> ?_
  refine xA (lN h1) λzq0 zq1=> ?_;subst zq0 zq1
  refine ra.intE λø zq=> ?_;subst zq;refine rb.intE λø zq=> ?_;subst zq
  split at e2
  ·rename_i hs
   obtain rfl:=aq e2
   refine mod_int' (vK hs.1) ?_
   rw[Int.fmod_eq_emod_of_nonneg _ (q7 hs.1)]
   exact h _ _ (After.tok I) (.int _ _)
  ·exact al e2
 |_=>exact al e
end
end
section
theorem EN(x:Str):(⟨(an x).toArray⟩:Str)=x:=by cases x;simp[an]
section
variable{W:Wd}{X:Addr->Prop}{h:Heap}
theorem Rep.reads{v:ae}{p:PV}(n:Nat)(r:Rep W X h v p):p.flat n=true->∃as,Reads h v p.py as:=
 Rep.rec (motive_1:=λv p ø=>∀n,p.flat n=true->∃as,Reads h v p.py as) (motive_2:=λvs ps ø=>∀n,(∀p∈ps,p.flat n=true)->∃as,ReadsAll h vs (PV.pys ps) as) (motive_3:=λø ø ø=>True)
  (λø ø=>⟨_,Reads.none⟩) (λb n k=>by cases n<;>exact bV k) (λi t ø ø=>⟨_,Reads.int i t⟩)
  (λx t ø ø=>⟨_,(congrArg PyData.str (EN x)).symm▸Reads.str x t⟩)
  (λe c d ø ø ih n k=>by
   cases n with
   |zero=>exact bV k
   |succ n=>exact xE (ih n (ba.mp k)) λas q=>⟨as,Reads.tuple e c d q⟩)
  (λe c d ø ø ih n k=>by
   cases n with
   |zero=>exact bV k
   |succ n=>exact xE (ih n (ba.mp k)) λas q=>⟨_,Reads.list e c d q⟩)
  (λø ø ø ø ø ø n k=>by cases n<;>exact bV k)
  (λø ø=>⟨_,ReadsAll.nil⟩)
  (λø ø i1 i2 n k=>xE (i1 n (k _ (.head _))) λas q=>xE (i2 n λd hm=>k d (.tail _ hm)) λbs p=>⟨_,ReadsAll.cons q p⟩)
  trivial (λø ø ø ø=>trivial) r n
end
theorem nn:∀(n:Nat) (p:PV),p.flat n=true->p.py.canLay0=true/\ p.py.depth<=n:=by
 have str:∀s:List Nat,(s.all λc=>decide (c<1114112))=true->PyData.strOk ⟨s.toArray⟩=true:=λs h=>by
  unfold PyData.strOk
  simpa using h
 intro n
 induction n with
 |zero=>
  intro p h
  cases p with
  |none=>exact⟨rfl,bO _⟩
  |int i=>exact⟨rfl,bO _⟩
  |str s=>exact⟨str s h,bO _⟩
  |_=>exact bV h
 |succ n ih=>
  have all:∀ps:List PV,(∀p∈ps,p.flat n=true)->CS (PV.pys ps)=true/\ vL (PV.pys ps)<=n:=by
   intro ps
   induction ps with
   |nil=>exact λø=>⟨rfl,dZ _⟩
   |cons p ps hi=>
    intro h
    have h1:=ih p (h p (.head _))
    have h2:=hi λe he=>h e (.tail _ he)
    exact⟨by show(p.py.canLay0&&CS (PV.pys ps))=true;rw[h1.1,h2.1];rfl,Nat.max_le.mpr ⟨h1.2,h2.2⟩⟩
  intro p h
  cases p with
  |none=>exact⟨rfl,dZ _⟩
  |int i=>exact⟨rfl,dZ _⟩
  |str x=>exact⟨str x h,dZ _⟩
  |tuple ds=>
   have q:=all ds (ba.mp h)
   exact⟨q.1,by show vL (PV.pys ds)+1<=n+1;exact fJ q.2⟩
  |list ds=>
   have q:=all ds (ba.mp h)
   exact⟨q.1,by show vL (PV.pys ds)+1<=n+1;exact fJ q.2⟩
  |_=>exact bV h
theorem xd(a b:List Nat):((⟨a.toArray⟩:Str)==⟨b.toArray⟩)=(a==b):=by
 by_cases h:a=b
 ·subst h;simp
 ·have h1:(⟨a.toArray⟩:Str)≠⟨b.toArray⟩:=λe=>h (by injection e with e;simpa using e)
  rw[beq_eq_false_iff_ne.mpr h1,beq_eq_false_iff_ne.mpr h]
theorem pj{n:Nat}{p:PV}(h:p.flat n=true)(hn:n<=64):SeqAt.shaped p.py=true:=by
 refine xA (nn n p h) λh1 h2=> ?_
 unfold SeqAt.shaped
 rw[h1,CT]
 exact decide_eq_true (ao h2 hn)
end
section
theorem xe(x:List Nat):∀s:List Nat,ce x s=true↔∃i,i+x.length<=s.length/\ (s.drop i).take x.length=x
 |[]=>by
  cases x with
  |nil=>simp[ce]
  |cons c r=>simp[ce]
 |c::r=>by
  unfold ce
  rw[gS,(xe x r),lh,O6]
  constructor
  ·rintro (h|⟨i,h1,h2⟩)
   ·refine⟨0,?_,by rw[gz];exact h.symm⟩
    have:=congrArg vM h
    rw[jj]at this
    exact ao (dq ((fK _).trans this)) (vN _ _)
   ·exact⟨i+1,ao (dq (lc i 1 _)) (fJ h1),by rw[CU];exact h2⟩
  ·intro zn1
   obtain⟨i,h1,h2⟩:=zn1
   cases i with
   |zero=>left;rw[gz]at h2;exact h2.symm
   |succ i=>right;exact⟨i,Nat.le_of_succ_le_succ (ao (dq (lc i _ 1)) h1),by rw[CU]at h2;exact h2⟩
theorem xf(x y:Str):Txt.contains x y=ce (an y) (an x):=by
 rw[rf]
 unfold Txt.contains
 rw[StrLaws.found_iff,xe]
 simp only[bY,StrLaws.subAt_eq,beq_iff_eq]
 rfl
section
variable{W:Wd}{X:Addr->Prop}{A:aA}{s:ah}{E:ae->ah->Prop}
theorem jD{A:aA}(hu:A.units<=9000):A.units+65<cLine:=by
 have:=cLine_is
 exact dt (q0 hu 65) (by decide+kernel)
theorem EO{Q:ae->ah->Prop}{va vb:ae}{a b:PV}(ra:Rep W X s.heap va a)(rb:Rep W X s.heap vb b)(ha:a.flat 4=true)(hb:b.flat 4=true)(hu:A.units<=9000)(h:Q (.bool (a.same b)) s):
  wpAny W.M A (compareOp .Eq va vb) Q E s:=by
 refine xE (ra.reads 4 ha) λas qa=> ?_
 refine xE (rb.reads 4 hb) λbs qb=> ?_
 refine eq_dataH qa qb (pj ha (by decide)) (pj hb (by decide)) (q8 (jD hu)) ?_
 exact h
theorem EP{Q:ae->ah->Prop}{va vb:ae}{a b:PV}(ra:Rep W X s.heap va a)(rb:Rep W X s.heap vb b)(ha:a.flat 4=true)(hb:b.flat 4=true)(hu:A.units<=9000)(h:Q (.bool (!a.same b)) s):
  wpAny W.M A (compareOp .NotEq va vb) Q E s:=by
 refine xE (ra.reads 4 ha) λas qa=> ?_
 refine xE (rb.reads 4 hb) λbs qb=> ?_
 refine ne_dataH qa qb (pj ha (by decide)) (pj hb (by decide)) (q8 (jD hu)) ?_
 exact h
theorem xg(xs:List PV)(x:PV):((PV.pys xs).any λy=>PyData.eqv y x.py)=xs.any λy=>y.same x:=by
 induction xs with
 |nil=>rfl
 |cons y ys ih=>
  show(PyData.eqv y.py x.py||(PV.pys ys).any _)=(y.same x||ys.any _)
  rw[ih];rfl
theorem xh(xs:List PV)(h:∀p∈xs,p.flat 4=true):CS (PV.pys xs)=true/\ vL (PV.pys xs)<=5:=by
 have q:=nn 5 (.list xs) (ba.mpr h)
 exact⟨q.1,Nat.le_of_succ_le q.2⟩
theorem EQ{v:ae}{xs:List PV}(r:Rep W X s.heap v (.list xs))(h:∀p∈xs,p.flat 4=true):∃as,Reads s.heap v (.list (PV.pys xs)) as:=
 r.reads 5 (ba.mpr h)
theorem ER{v:ae}{xs:List PV}(r:Rep W X s.heap v (.tuple xs))(h:∀p∈xs,p.flat 4=true):∃as,Reads s.heap v (.tuple (PV.pys xs)) as:=
 r.reads 5 (ba.mpr h)
theorem tc{n:Nat}{p:PV}(h:p.flat n=true):p.same p=true:=SeqAt.eqv_refl p.py (nn n p h).1
theorem em{vs:Array ae}{xs:List PV}{h:Heap}(r:a8 W X h vs.toList xs):vs.size=xs.length:=by have:=r.length;simpa using this
theorem xi{n:Nat}{xs:List PV}(h:n=xs.length):((iL (min n 0)).all (λø=>true)&&n==0)=xs.isEmpty:=by
 subst h
 cases xs<;>simp
theorem pn{va vb:ae}{a b:PV}{p:Int×Int}(e:gZ a b=some p)(ra:Rep W X s.heap va a)(rb:Rep W X s.heap vb b):∃t u,va= .int p.1 t/\ vb= .int p.2 u:=by
 refine xA (lN e) λzq0 zq1=> ?_;subst zq0 zq1
 refine xE ra.intI λt zq1=> ?_;subst zq1
 refine xE rb.intI λu zq1=> ?_;subst zq1
 exact⟨t,u,rfl,rfl⟩
theorem xj{va vb:ae}{a b:PV}{x y:List Nat}(e:iP a b=some (x,y))(ra:Rep W X s.heap va a)(rb:Rep W X s.heap vb b):∃x' t y' u,x=an x'/\ y=an y'/\ va= .str x' t/\ vb= .str y' u:=by
 refine xA (nj e) λzq0 zq1=> ?_;subst zq0 zq1
 refine ra.strE λx' t e1 zq3=> ?_;subst zq3
 refine rb.strE λy' u e2 zq3=> ?_;subst zq3
 exact⟨x',t,y',u,e1,e2,rfl,rfl⟩
theorem xk{h:Heap}{v:ae}{a:PV}(r:Rep W X h v a):(v==j')=fU a:=by cases r<;>rfl
theorem xm{a b:PV}{r:Bool}(e:lF a b=some r):(∃x y,a= .bool x/\ b= .bool y/\ r=(x==y)) \/(∃x y,a= .str x/\ b= .str y/\ r=(x==y)) \/(∃x,a= .tuple x/\ b= .tuple []/\ r=x.isEmpty) \/(∃x,a= .list x/\ b= .list []/\ r=x.isEmpty) \/(a.flat 4=true/\ b.flat 4=true/\ r=a.same b):=by
 unfold lF at e
 cases h1:sw a b with
 |some p=>rw[h1]at e;obtain rfl:=aq e;exact .inl ⟨_,_,(xc h1).1,(xc h1).2,rfl⟩
 |none=>
  cases h2:iP a b with
  |some p=>rw[h1,h2]at e;obtain rfl:=aq e;exact .inr (.inl ⟨_,_,(nj h2).1,(nj h2).2,rfl⟩)
  |none=>
   cases h3:(mU a b).bind λp=>if p.2.isEmpty then some p.1 else none with
   |some xs=>
    rw[h1,h2,h3]at e
    obtain rfl:=aq e
    refine bl h3 λp q1 q2=> ?_
    split at q2
    ·rename_i q3
     obtain rfl:=aq q2
     exact .inr (.inr (.inl ⟨_,(ph q1).1,by rw[(ph q1).2,gR.mp q3],rfl⟩))
    ·exact al q2
   |none=>
    cases h4:(mV a b).bind λp=>if p.2.isEmpty then some p.1 else none with
    |some xs=>
     rw[h1,h2,h3,h4]at e
     obtain rfl:=aq e
     refine bl h4 λp q1 q2=> ?_
     split at q2
     ·rename_i q3
      obtain rfl:=aq q2
      exact .inr (.inr (.inr (.inl ⟨_,(pi q1).1,by rw[(pi q1).2,gR.mp q3],rfl⟩)))
     ·exact al q2
    |none=>
     rw[h1,h2,h3,h4]at e
     have e:(if(a.flat 4&&b.flat 4)=true then some (a.same b)else none)=some r:=e
     split at e
     ·rename_i hf
      refine xA (oE.mp hf) λf1 f2=> ?_
      obtain rfl:=aq e
      exact .inr (.inr (.inr (.inr ⟨f1,f2,rfl⟩)))
     ·exact al e
theorem ES{Q:ae->ah->Prop}{va vb:ae}{a b:PV}{r:Bool}(e:lF a b=some r)(ra:Rep W X s.heap va a)(rb:Rep W X s.heap vb b)(hu:A.units<=9000)
  (h:Q (.bool r) s):wpAny W.M A (compareOp .Eq va vb) Q E s:=by
 have hc:A.units<cLine:=dt (bk _ _) (jD hu)
 rcases xm e with ⟨x,y,rfl,rfl,rfl⟩|⟨x,y,rfl,rfl,rfl⟩|⟨x,rfl,rfl,rfl⟩|⟨xs,rfl,rfl,rfl⟩|⟨f1,f2,rfl⟩
 ·obtain rfl:=ra.boolI;obtain rfl:=rb.boolI;exact eq_bool h
 ·refine ra.strE λø ø zq2 zq3=> ?_;subst zq2 zq3
  refine rb.strE λø ø zq2 zq3=> ?_;subst zq2 zq3
  exact PySem.P.eq_str h
 ·refine ra.tupE λt o vs n zq4 e1 c1 d1 n1 r1=> ?_;subst zq4
  refine rb.tupE λt2 o2 ws k zq4 e2 c2 d2 n2 r2=> ?_;subst zq4
  have z2:=em r2
  refine SeqAt.RcAt.tuples (e:=λø=>true) ⟨_,e1,c1,_,d1⟩ ⟨_,e2,c2,_,d2⟩ hc (λj j1 j2=>by rw[z2]at j2;exact absurd j2 (oF _)) _ _ E Q ?_
  rw[z2,mz,xi (em r1)];exact h
 ·refine ra.lisE λt o vs n zq4 e1 c1 d1 n1 r1=> ?_;subst zq4
  refine rb.lisE λt2 o2 ws k zq4 e2 c2 d2 n2 r2=> ?_;subst zq4
  have z2:=em r2
  have z1:=em r1
  cases xs with
  |nil=>
   refine SeqAt.RcAt.lists (e:=λø=>true) ⟨_,e1,c1,_,d1⟩ ⟨_,e2,c2,_,d2⟩ (by rw[z1,z2]) hc (λj j1 j2=>by rw[z2]at j2;exact absurd j2 (oF _)) _ _ E Q ?_
   rw[z1];exact h
  |cons x xs=>
   exact SeqAt.RcAt.lists_lengths ⟨_,e1,c1,_,d1⟩ ⟨_,e2,c2,_,d2⟩ (by rw[z1,z2];rfl) hc _ _ E Q h
 ·exact EO ra rb f1 f2 hu h
theorem ET{Q:ae->ah->Prop}{va vb:ae}{a b:PV}{r:Bool}(e:lF a b=some r)(ra:Rep W X s.heap va a)(rb:Rep W X s.heap vb b)(hu:A.units<=9000)
  (h:Q (.bool !r) s):wpAny W.M A (compareOp .NotEq va vb) Q E s:=by
 have hc:A.units<cLine:=dt (bk _ _) (jD hu)
 rcases xm e with ⟨x,y,rfl,rfl,rfl⟩|⟨x,y,rfl,rfl,rfl⟩|⟨x,rfl,rfl,rfl⟩|⟨xs,rfl,rfl,rfl⟩|⟨f1,f2,rfl⟩
 ·obtain rfl:=ra.boolI;obtain rfl:=rb.boolI;exact ne_bool h
 ·refine ra.strE λø ø zq2 zq3=> ?_;subst zq2 zq3
  refine rb.strE λø ø zq2 zq3=> ?_;subst zq2 zq3
  exact PySem.P.ne_str h
 ·refine ra.tupE λt o vs n zq4 e1 c1 d1 n1 r1=> ?_;subst zq4
  refine rb.tupE λt2 o2 ws k zq4 e2 c2 d2 n2 r2=> ?_;subst zq4
  have z2:=em r2
  refine SeqAt.RcNeAt.tuples (e:=λø=>true) ⟨_,e1,c1,_,d1⟩ ⟨_,e2,c2,_,d2⟩ hc (λj j1 j2=>by rw[z2]at j2;exact absurd j2 (oF _)) _ _ E Q ?_
  rw[z2,mz,xi (em r1)];exact h
 ·refine ra.lisE λt o vs n zq4 e1 c1 d1 n1 r1=> ?_;subst zq4
  refine rb.lisE λt2 o2 ws k zq4 e2 c2 d2 n2 r2=> ?_;subst zq4
  have z2:=em r2
  have z1:=em r1
  cases xs with
  |nil=>
   refine SeqAt.RcNeAt.lists (e:=λø=>true) ⟨_,e1,c1,_,d1⟩ ⟨_,e2,c2,_,d2⟩ (by rw[z1,z2]) hc (λj j1 j2=>by rw[z2]at j2;exact absurd j2 (oF _)) _ _ E Q ?_
   rw[z1];exact h
  |cons x xs=>
   exact SeqAt.RcNeAt.lists_lengths ⟨_,e1,c1,_,d1⟩ ⟨_,e2,c2,_,d2⟩ (by rw[z1,z2];rfl) hc _ _ E Q h
 ·exact EP ra rb f1 f2 hu h
theorem xn{v:PV}(h:fU v=true):v= .none:=by
 cases v with
 |none=>rfl
 |_=>exact bV h
theorem EU{Q:ae->ah->Prop}{va vb:ae}{a b:PV}{r:Bool}(e:sx a b=some r)(ra:Rep W X s.heap va a)(rb:Rep W X s.heap vb b)(hu:A.units<=9000)
  (h:Q (.bool r) s):wpAny W.M A (compareOp .In va vb) Q E s:=by
 have hroom:∀n m:Nat,n<=5->A.units+1+min n m<cLine:=λn m hn=>by
  have:=jD hu
  have:=vO n m
  exact dt (ey (ao this hn) (A.units+1)) (dt (ey (n:=6) (m:=65) (bz rfl) A.units) (jD hu))
 unfold sx at e
 cases h1:iP a b with
 |some p=>
  obtain⟨x,y⟩:=p
  rw[h1]at e;obtain rfl:=aq e
  refine rL (xj h1 ra rb) λx' t y' u zq4 zq5 zq6 zq7=> ?_;subst zq4 zq5 zq6 zq7
  refine SB.contains ?_
  rw[xf];exact h
 |none=>
  cases h2:ko b with
  |some ys=>
   rw[h1,h2]at e
   obtain rfl:=pg h2
   have e:(if(a.flat 4&&ys.all (PV.flat 4))=true then some (ys.any λy=>y.same a)else none)=some r:=e
   split at e
   ·rename_i hf
    refine xA (oE.mp hf) λf1 f2=> ?_
    obtain rfl:=aq e
    have f2':=ba.mp f2
    refine xE (EQ rb f2') λas qc=> ?_
    refine xE (ra.reads 4 f1) λbs qx=> ?_
    have l:=xh _ f2'
    refine SeqAt.in_list_reads qc qx l.1 (nn 4 _ f1).1 (hroom _ _ l.2) ?_
    rw[xg];exact h
   ·exact al e
  |none=>
   cases h3:kq b with
   |some ys=>
    rw[h1,h2,h3]at e
    obtain rfl:=xb h3
    have e:(if(a.flat 4&&ys.all (PV.flat 4))=true then some (ys.any λy=>y.same a)else none)=some r:=e
    split at e
    ·rename_i hf
     refine xA (oE.mp hf) λf1 f2=> ?_
     obtain rfl:=aq e
     have f2':=ba.mp f2
     refine xE (ER rb f2') λas qc=> ?_
     refine xE (ra.reads 4 f1) λbs qx=> ?_
     have l:=xh _ f2'
     refine SeqAt.in_tuple_reads qc qx l.1 (nn 4 _ f1).1 (hroom _ _ l.2) ?_
     rw[xg];exact h
    ·exact al e
   |none=>rw[h1,h2,h3]at e;exact al e
theorem ky{Q:ae->ah->Prop}{op:e6}{va vb:ae}{a b:PV}{r:Bool}(e:kr op a b=some r)(ra:Rep W X s.heap va a)(rb:Rep W X s.heap vb b)(hu:A.units<=9000)
  (h:Q (.bool r) s):wpAny W.M A (compareOp op va vb) Q E s:=by
 cases op with
 |Eq=>exact ES e ra rb hu h
 |NotEq=>obtain⟨z,e2,rfl⟩:=my.mp e;exact ET e2 ra rb hu h
 |Lt=>obtain⟨p,h1,rfl⟩:=my.mp e;obtain⟨t,u,rfl,rfl⟩:=pn h1 ra rb;exact PyProof.Rows.lt_int h
 |LtE=>obtain⟨p,h1,rfl⟩:=my.mp e;obtain⟨t,u,rfl,rfl⟩:=pn h1 ra rb;exact PyProof.Rows.le_int h
 |Gt=>obtain⟨p,h1,rfl⟩:=my.mp e;obtain⟨t,u,rfl,rfl⟩:=pn h1 ra rb;exact PyProof.Rows.gt_int h
 |GtE=>obtain⟨p,h1,rfl⟩:=my.mp e;obtain⟨t,u,rfl,rfl⟩:=pn h1 ra rb;exact PyProof.Rows.ge_int h
 |Is=>
  have e:(if fU b=true then some (fU a)else none)=some r:=e
  split at e
  ·rename_i hb
   obtain rfl:=aq e
   obtain rfl:=xn hb
   obtain rfl:=rb.noneI
   exact PyProof.Rows.is_none_gen ((xk ra)▸h)
  ·exact al e
 |IsNot=>
  have e:(if fU b=true then some (!fU a)else none)=some r:=e
  split at e
  ·rename_i hb
   obtain rfl:=aq e
   obtain rfl:=xn hb
   obtain rfl:=rb.noneI
   exact PyProof.Rows.isnot_none_gen ((xk ra)▸h)
  ·exact al e
 |In=>exact EU e ra rb hu h
 |NotIn=>
  refine eR e λzn2 h1 zq2=> ?_;subst zq2
  obtain⟨x,y⟩:=zn2
  refine rL (xj h1 ra rb) λx' t y' u zq4 zq5 zq6 zq7=> ?_;subst zq4 zq5 zq6 zq7
  refine SB.notContains ?_
  rw[xf];exact h
end
end
section
section
variable{W:Wd}{X:Addr->Prop}{A:aA}{s:ah}{E:ae->ah->Prop}
theorem gn:aX=1048576:=by decide
theorem te{Q:Bool->ah->Prop}(I:Inv W s){v:ae}{p:PV}{r:Bool}(e:d4 p=some r)(ra:Rep W X s.heap v p)(h:∀s',After W X s s'->Q r s'):wpAny W.M A (truthy v) Q E s:=by
 have h63:(2:Int)^63=9223372036854775808:=by decide
 have ht:=gn
 cases ra with
 |none=>obtain rfl:=aq e;exact truthy_none (h _ (After.refl I))
 |bool b=>obtain rfl:=aq e;exact CV (h _ (After.refl I))
 |int i t=>obtain rfl:=aq e;exact PyProof.Rows.truthy_int (h _ (After.refl I))
 |str x t=>
  simp only[d4]at e
  split at e
  ·rename_i hl
   obtain rfl:=aq e
   rw[bY]at hl
   refine PySem.P.truthy_str (Int.not_le.mpr (zl hl (by decide+kernel))) ?_
   have q:((x.length:Int) !=0)= !(an x).isEmpty:=by
    rw[<-bY]
    cases an x with
    |nil=>rfl
    |cons c r=>rw[gj,List.isEmpty_cons,Bool.not_false,bne_iff_ne];exact λh=>CW _ (fc.inj h)
   rw[q];exact h _ (After.tok I)
  ·exact al e
 | @tuple t o vs n xs e1 c1 d1 n1 r1=>
  simp only[d4]at e
  split at e
  ·rename_i hl
   obtain rfl:=aq e
   have z:=em r1
   refine truthy_tuple ⟨_,e1,c1,_,d1⟩ (zl (kl z hl) (by decide+kernel)) ?_
   have q:(!vs.isEmpty)= !xs.isEmpty:=by
    cases xs with
    |nil=>rw[mz]at z;simp[vP,z]
    |cons c r=>rw[gj]at z;simp[vP,z]
   rw[q];exact h _ (After.tok I)
  ·exact al e
 | @list t o vs n xs e1 c1 d1 n1 r1=>
  simp only[d4]at e
  split at e
  ·rename_i hl
   obtain rfl:=aq e
   have z:=em r1
   refine wpAny_truthy_list ⟨_,e1,c1,_,d1⟩ (zl (kl z hl) (by decide+kernel)) ?_
   have q:(!vs.isEmpty)= !xs.isEmpty:=by
    cases xs with
    |nil=>rw[mz]at z;simp[vP,z]
    |cons c r=>rw[gj]at z;simp[vP,z]
   rw[q];exact h _ (After.tok I)
  ·exact al e
 |inst=>exact al e
theorem jE{value slice:ai}{o i:ae}{T id:String}{ops:List ae}{Q:ae->ah->Prop}(hT:s.TypeIs o T)
  (hl:typeLookup (.type T) "__getitem__" =pure (some (.builtin id))) (h:wpAny W.M A (getItem o i) Q E s)
  (hs:subscripted slice false o i=operate ops (getItem o i)):wpAny W.M A (subscriptTail value slice o i) Q E s:=by
 unfold subscriptTail
 refine aJ ?_
 rw[getitemInPython_of_ne hT.not_modules]
 refine aJ (CX hT hl ?_)
 have fin:wpAny W.M A (subscripted slice false o i) (λr s₃=>wpAny W.M A (letTemporaryGo value o r>>=λø=>pure r) Q E s₃) E s:=by
  exact(hs)▸wpAny_operating (fL h (λr s₃ h₃=>aJ (wpAny_letTemporaryGo (bj h₃))) λø ø x=>x)
 first
  |exact bj (aJ fin)
  |exact aJ (bj (aJ fin))
  |exact aJ fin
theorem EV(x:Str)(i:Int)(h0:0<=i)(h:i.toNat<x.length):Txt.charAt x i=(an x)[i.toNat]? :=by
 unfold Txt.charAt
 have:seqIndex? i x.length=some i.toNat:=by
  unfold seqIndex?
  simp only
  have h1:¬i<0:=vE.mpr h0
  simp only[h1,if_false]
  have h2:¬(i<0 \/i≥(x.length:Int)):=not_or.mpr ⟨h1,Int.not_le.mpr ((vD h0).mp h)⟩
  first
   |rw[if_neg h2]
   |(simp only[h1,false_or]at h2 ⊢;simp;exact⟨h0,(vD h0).mp h⟩)
   |(simp;lia)
 rw[this]
 simp[an]
theorem xo{h:Heap}{vs:Array ae}{xs:List PV}{k:Int}{r:PV}(r1:a8 W X h vs.toList xs)(e:iR xs k=some r):
  ∃v,Rep W X h v r/\ ((0<=k/\ k<=aX/\ vs[k.toNat]? =some v) \/(k= -1/\ 0<vs.size/\ vs[vs.size-1]? =some v)):=by
 by_cases hk:0<=k/\ k<=aX
 ·rw[iR,if_pos hk]at e
  refine ay (r1.get e) λv hv rv=> ?_
  exact⟨v,rv, .inl ⟨hk.1,hk.2,by rw[<-hv,O7]⟩⟩
 ·rw[iR,if_neg hk]at e
  refine xA (kx e) λhk1 e=> ?_
  rw[List.getLast?_eq_getElem?]at e
  refine ay (r1.get e) λv hv rv=> ?_
  have z:=em r1
  refine⟨v,rv, .inr ⟨hk1,?_,by rw[z,<-hv,O7]⟩⟩
  rw[z]
  cases xs with
  |nil=>exact al e
  |cons=>exact j7 _
theorem EW{n:Nat}{k:Int}(h:0<=k)(l:k.toNat<n):seqIndex? k n=some k.toNat:=by
 exact si ((if_neg (vE.mpr h)).trans (rg h).symm) l
theorem EX{n:Nat}(h:0<n):seqIndex? (-1) n=some (n-1):=by
 exact si ((if_pos (by decide)).trans (zm h)) (Nat.sub_lt h (j7 0))
theorem EY{α:Type}{vs:Array α}{k:Nat}{v:α}(h:vs[k]? =some v):k<vs.size:=by
 refine ck (oA k vs.size) (λq=> ?_) (λq=> ?_)
 ·exact q
 ·rw[vQ q]at h;exact al h
theorem xp{Q:ae->ah->Prop}(I:Inv W s){value slice:ai}{va vi:ae}{a i r:PV}(e:fi a i=some r)(ra:Rep W X s.heap va a)(ri:Rep W X s.heap vi i)
  (hs:∀o i,subscripted slice false o i=operate [o,i] (getItem o i))
  (h:∀v s',After W X s s'->Rep W X s'.heap v r->Q v s'):wpAny W.M A (subscriptTail value slice va vi) Q E s:=by
 have ht:=gn
 have h63:(2:Int)^63=9223372036854775808:=by decide
 cases a with
 |str xs=>
  refine bl e λk e1 e=> ?_
  refine xA (kx (c:=0<=k/\ k<=aX) e) λhk e=> ?_
  refine eR e λc hc0 zq2=> ?_;subst zq2
  refine ra.strE λx t zq2 zq3=> ?_;subst zq2 zq3
  refine xE (ni e1 ri) λu zq1=> ?_;subst zq1
  have hlt:k.toNat<(an x).length:=(vR.mp hc0).1
  have hc:=(EV x k hk.1 (by rw[<-bY];exact hlt)).trans hc0
  refine jE (oG s x t) O8.lookup (SB.getItem ?_ (by rw[hc];rfl) ?_) (hs _ _)
  ·unfold fitsSsize
   simp
   exact⟨jf (by decide) hk.1,oi hk.2 (by decide+kernel)⟩
  ·have:Txt.item x k=⟨#[c]⟩:=by unfold Txt.item;rw[hc];rfl
   exact(this)▸h _ _ (After.tok I) (.str ⟨#[c]⟩ _)
 |tuple xs=>
  refine bl e λk e1 e=> ?_
  refine ra.tupE λt o vs n zq4 e2 c1 d1 n1 r1=> ?_;subst zq4
  refine xE (ni e1 ri) λu zq1=> ?_;subst zq1
  have hT:IsTup s.heap t vs:=⟨_,e2,c1,_,d1⟩
  obtain⟨v,rv,⟨p0,p1,hv⟩|⟨rfl,p0,hv⟩⟩:=xo r1 e
  ·exact jE hT.typeIs rh.lookup (getItem_tuple hT (jf (by decide) p0) (oi p1 (by decide+kernel)) (EW p0 (EY hv)) hv (h _ _ (After.refl I) rv)) (hs _ _)
  ·exact jE hT.typeIs rh.lookup (getItem_tuple hT (by decide) (by decide) (EX p0) hv (h _ _ (After.refl I) rv)) (hs _ _)
 |list xs=>
  refine bl e λk e1 e=> ?_
  refine ra.lisE λt o vs n zq4 e2 c1 d1 n1 r1=> ?_;subst zq4
  refine xE (ni e1 ri) λu zq1=> ?_;subst zq1
  have hT:s.heap.IsList t vs:=⟨_,e2,c1,_,d1⟩
  obtain⟨v,rv,⟨p0,p1,hv⟩|⟨rfl,p0,hv⟩⟩:=xo r1 e
  ·exact jE hT.typeIs CY.lookup (wpAny_getItem_list hT p0 (oi p1 (by decide+kernel)) hv (h _ _ (After.refl I) rv)) (hs _ _)
  ·refine jE hT.typeIs CY.lookup (wpAny_getItem_list_neg hT (by decide) (wI p0) (by decide) ?_ (h _ _ (After.refl I) rv)) (hs _ _)
   exact(congrArg Int.toNat (zm p0):((-1:Int)+vs.size).toNat=vs.size-1)▸hv
 |_=>exact al e
end
end
section
noncomputable def eU:Option Nat->Nat
 |none=>0
 |some l=>l
noncomputable def f7(n:Nat):Option Nat->Nat
 |none=>n
 |some u=>min u n
theorem po(n:Nat)(up:Option Nat):f7 n up<=n:=by cases up with
 |none=>exact bO n
 |some u=>exact vN u n
theorem xq(lo up:Option Nat)(n:Nat):strSliceIndices (lo.map fc) (up.map fc) 1 n=strSliceIndices (some (min (eU lo) n:Nat)) (some (f7 n up:Nat)) 1 n:=by
 show sliceRange _ _ 1=sliceRange (max 0 (min (if((min (eU lo) n:Nat):Int)<0 then((min (eU lo) n:Nat):Int)+n else(min (eU lo) n:Nat)) n)) (max 0 (min (if((f7 n up:Nat):Int)<0 then((f7 n up:Nat):Int)+n else(f7 n up:Nat)) n)) 1
 rw[jt,jt,Nat.min_assoc,Nat.min_self,Nat.min_eq_left (po n up)]
 cases lo<;>cases up
 ·exact(congrArg (sliceRange · _ 1) (congrArg fc (Nat.zero_min n)).symm)
 ·exact((congrArg (sliceRange · _ 1) (congrArg fc (Nat.zero_min n)).symm).trans (congrArg (sliceRange _ · 1) (jt _ n)))
 ·exact congrArg (sliceRange · _ 1) (jt _ n)
 ·exact(congrArg (sliceRange · _ 1) (jt _ n)).trans (congrArg (sliceRange _ · 1) (jt _ n))
theorem th{α:Type}(xs:List α)(lo up:Option Nat):fV xs lo up=(xs.drop (eU lo)).take (f7 xs.length up-eU lo):=by
 have e:∀u:Nat,xs.take u=xs.take (min u xs.length):=λu=>by
  rw[<-List.take_take,CZ]
 cases lo with
 |none=>
  cases up with
  |none=>simp[fV,eU,f7]
  |some u=>simp only[fV,eU,f7,gz,rj];exact e u
 |some l=>
  cases up with
  |none=>
   simp only[fV,eU,f7]
   rw[C0 (by simp)]
  |some u=>
   simp only[fV,eU,f7]
   rw[e u,C1]
theorem xr(a b n:Nat)(h:¬min a n<=b):strSliceIndices (some ((min a n:Nat):Int)) (some (b:Int)) 1 n=[]:=by
 show sliceRange (max 0 (min (if((min a n:Nat):Int)<0 then((min a n:Nat):Int)+n else(min a n:Nat)) n)) (max 0 (min (if(b:Int)<0 then(b:Int)+n else b) n)) 1=[]
 rw[jt,jt,Nat.min_assoc,Nat.min_self]
 unfold sliceRange
 rw[if_pos (by decide),if_neg (λq=>h (fM (eN (re.mp q) (vO b n))))]
 rfl
theorem EZ(x:Str)(lo up:Option Nat):(strSliceIndices (lo.map fc) (up.map fc) 1 x.length).filterMap (x.cps[·]?)=fV (an x) lo up:=by
 rw[xq,th,bY]
 by_cases h:min (eU lo) x.length<=f7 x.length up
 ·rw[StrLaws.sliced_plain x h (po x.length up)]
  show List.take _ (List.drop _ (an x))=_
  rcases Nat.le_total (eU lo) x.length with q|q
  ·rw[Nat.min_eq_left q]
  ·rw[Nat.min_eq_right q]
   have l:=bY x
   rw[rk (dq l),rk (kl ‹_› ‹_›)]
   simp
 ·have h1:f7 x.length up-eU lo=0:=O9 (ao (fM (Nat.lt_of_not_le h)) (vO _ _))
  rw[h1,List.take_zero,xr _ _ _ h];rfl
theorem E0(n:Nat)(lo up:Option Nat):(strSliceIndices (lo.map fc) (up.map fc) 1 n).length=f7 n up-min (eU lo) n:=by
 rw[xq]
 by_cases h:min (eU lo) n<=f7 n up
 ·rw[StrLaws.strSliceIndices_plain h (po n up)];simp
 ·rw[xr _ _ _ h];exact(O9 (fM (Nat.lt_of_not_le h))).symm
section
variable{W:Wd}{X:Addr->Prop}{A:aA}{s:ah}{E:ae->ah->Prop}
theorem E2{Q:ae->ah->Prop}(I:Inv W s){x:Str}{t:bE}{a:Addr}{l u:Option (Int×bE)}{lo up:Option Nat}(hl:l.map (·.1)=lo.map fc)(hu:u.map (·.1)=up.map fc)
  (hs:s.heap.IsSlice a l u none) (hz:x.length<=sizeLine) (h:∀v s',After W X s s'->Rep W X s'.heap v (.str (fV (an x) lo up))->Q v s'):wpAny W.M A (getItem (.str x t) (.ref a)) Q E s:=by
 refine wpAny_getItem_str_slice hs rfl ?_
 have hp:slicePicked x l u none=strSliceIndices (lo.map fc) (up.map fc) 1 x.length:=by
  unfold slicePicked
  rw[hl,hu];rfl
 have pk:=EZ x lo up
 unfold sliceMade
 rw[hp]
 split
 ·rename_i hq
  have hq':(strSliceIndices (lo.map fc) (up.map fc) 1 x.length).length=x.length:=by simpa using hq
  rw[E0]at hq'
  have hu':=po x.length up
  have c2:(an x).length=x.length:=bY x
  have:fV (an x) lo up=an x:=by
   rw[th,c2]
   by_cases hx:x.length=0
   ·have:an x=[]:=oH ‹_›
    rw[this];simp
   ·have z:eU lo=0:=D3 hq' hu' hx
    rw[z,gz,rj,C0 (ao (dq (c2.trans hq'.symm)) (ie _ _))]
  refine h _ _ (After.refl I) ?_
  rw[this];exact .str _ _
 ·refine⟨?_,?_⟩
  ·skip
   rw[<-bY,EJ,pk,th,jj,eh,bY]
   exact ao (vN _ _) (ao (ie _ _) hz)
  ·refine h _ _ (After.tok I) ?_
   exact(pk)▸ .str ⟨_⟩ _
end
end
section
open AutoSeq1 (wpAny_loadPart')
open PySem.Builtin in
theorem E3:Meets (Builtin.«tuple.__new__» ⟨[.type "tuple"],[]⟩)
   (λø R s=>R (.ok (.ret (.ref s.heap.objs.size))) {s with heap:=s.heap.push {cls:= .type "tuple",data:= .seq #[]}}):=
 .of_wp λprog w A R s h=>by
  obtain⟨hp,g,d,tk,os⟩:=s
  have hsub:=sub_tuple_self
  have hinit:=init_tuple_lookup
  have hmh:=madeHere_tuple
  wp_walk
  all_goals exact⟨_,rfl,h⟩
noncomputable def PW:List aY:=[.tup, .bas]
noncomputable def blt:List Str:=["len", "int", "str", "repr", "tuple", "list", "any", "isinstance", "ValueError", "type", "super", "range"]
structure aZ(W:Wd):Prop where
 kin:W.K.In W.base
 g:W.base.Ns mainGlobals W.mg
 b:W.base.Ns builtinsNs W.mb
 mbv:∀x:Str,x≠ "__name__" ->W.mb x=bootBuiltins x
 nolimit:W.base.NoLimit
 nogl:∀x∈blt,W.mg x=none
 tupN:W.mg "TupleType" =some (.ref (W.clsA .tup))
 basN:W.mg "BasicType" =some (.ref (W.clsA .bas))
 kit:∀c d:aY,kitOne W.K (.ref (W.clsA c)) (.ref (W.clsA d))=some (c==d)
 kitS:∀c:aY,kitOne W.K (.ref (W.clsA c)) (.type "str")=some false
 pget:∀c:aY,plainGet W.K (W.clsA c) "__class__" =true
 hdict:∀c:aY,hasDictIn W.K (W.clsA c)=true
 fcls:∀c:aY,findIn W.K (.ref (W.clsA c)) "__class__" =some (some (.builtin "object.__class__"))
 scls:specialIn W.K (.builtin "object.__class__") "__get__" =some (some (.builtin "getset_descriptor.__get__"))
 tcls:takesIn W.K (.builtin "object.__class__")=some true
 mcls:∀c:aY,mroIn W.K (W.clsA c) (.type "object")=some true
 ga:∀c:aY,findIn W.K (.ref (W.clsA c)) "__getattribute__" =some (some (.builtin "object.__getattribute__"))
 fld:∀c:aY,∀a∈dL,findIn W.K (.ref (W.clsA c)) a=some none
 bfor:∀(A:aA) (s:ah) (Q:Addr->ah->Prop) (E:ae->ah->Prop),Inv W s->Q builtinsNs s->wpAny W.M A (builtinsFor mainGlobals builtinsNs) Q E s
 tabInj:∀q∈W.tabs,∀q'∈W.tabs,q.2=q'.2->q=q'
 cd:∀c:aY,∃cd,clsIn W.K (W.clsA c)=some cd/\ cd.hasDict=true
section
variable{W:Wd}{X:Addr->Prop}{A:aA}{s:ah}{E:ae->ah->Prop}
theorem Inv.kin(O:aZ W)(I:Inv W s):W.K.In s.heap:=O.kin.keeps I.stays
theorem Inv.g(O:aZ W)(I:Inv W s):s.heap.Ns mainGlobals W.mg:=O.g.keeps I.stays
theorem Inv.b(O:aZ W)(I:Inv W s):s.heap.Ns builtinsNs W.mb:=O.b.keeps I.stays
theorem Inv.nolimit(O:aZ W)(I:Inv W s):s.heap.NoLimit:=O.nolimit.keeps I.stays
theorem kz{h:Heap}{x d C:Addr}{es:List eO}{n:Nat}(h1:h.get? x=some (instObj C d))(h2:h.get? d=some (dictOf es n)):PySem.W.InstAt h x (instObj C d) C (some (dictOf es n)):=
 ⟨h1,rfl,rfl,h2⟩
theorem E4{Q:ae->ah->Prop}(O:aZ W)(I:Inv W s){v:ae}{p:PV}{t:Str}{r:Bool}(e:dK p t=some r)(ra:Rep W X s.heap v p)(h:∀s',After W X s s'->Q (.bool r) s'):
  ∃tv,((t= "str" /\ tv= .type "str") \/(t= "int" /\ tv= .type "int") \/(t= "tuple" /\ tv= .type "tuple") \/(t= "TupleType" /\ tv= .ref (W.clsA .tup)) \/(t= "BasicType" /\ tv= .ref (W.clsA .bas)))/\
   wpAny W.M A (call (.builtin "isinstance") [v,tv]) Q E s:=by
 have fin:∀b,b=r->∀tk,Q (.bool b) {s with toks:=tk}:=λb e tk=>e▸h _ (After.tok I)
 have own:∀{x d:Addr} {c:aY} {es:List eO} {n:Nat} (_:s.heap.get? x=some (instObj (W.clsA c) d)) (_:s.heap.get? d=some (dictOf es n)) (k:ae) (b:Bool),kitOne W.K (.ref (W.clsA c)) k=some b->b=r->
   wpAny W.M A (call (.builtin "isinstance") [.ref x,k]) Q E s:=λ{x d c es n} e1 e2 k b hk hb=>
  kia_one (kitx_own (O.pget c) (O.hdict c) (O.fcls c) O.scls O.tcls (O.mcls c)) (I.kin O) (kz e1 e2) hk (by simp) (fin b hb)
 unfold dK at e
 split at e
 ·rename_i ht
  refine⟨.type "str", .inl ⟨ht,rfl⟩,?_⟩
  cases p with
  |str y=>refine ra.strE λx u zq zr=> ?_;subst zq zr;obtain rfl:=aq e;exact IsiPair.str_str (h _ (After.refl I))
  |inst c fs=>refine ra.instE λx d es n zq e1 e2 ø ø ø=> ?_;subst zq;obtain rfl:=aq e;exact own e1 e2 _ false (O.kitS _) rfl
  |_=>exact al e
 ·split at e
  ·rename_i ht
   refine⟨.type "int", .inr (.inl ⟨ht,rfl⟩),?_⟩
   cases p with
   |int i=>obtain⟨u,rfl⟩:=ra.intI;obtain rfl:=aq e;exact IsiPair.int_int (h _ (After.refl I))
   |none=>obtain rfl:=ra.noneI;obtain rfl:=aq e;exact IsiPair.NoneType_int (h _ (After.tok I))
   |tuple xs=>refine ra.tupE λa o ws n zq e1 c1 ø ø ø=> ?_;subst zq;obtain rfl:=aq e;exact IsiPair.tuple_int e1 c1 (h _ (After.tok I))
   |_=>exact al e
  ·split at e
   ·rename_i ht
    refine⟨.type "tuple", .inr (.inr (.inl ⟨ht,rfl⟩)),?_⟩
    cases p with
    |int i=>obtain⟨u,rfl⟩:=ra.intI;obtain rfl:=aq e;exact IsiPair.int_tuple (h _ (After.tok I))
    |none=>obtain rfl:=ra.noneI;obtain rfl:=aq e;exact IsiPair.NoneType_tuple (h _ (After.tok I))
    |tuple xs=>refine ra.tupE λa o ws n zq e1 c1 ø ø ø=> ?_;subst zq;obtain rfl:=aq e;exact IsiPair.tuple_tuple e1 c1 (h _ (After.refl I))
    |_=>exact al e
   ·split at e
    ·rename_i ht
     refine⟨.ref (W.clsA .tup), .inr (.inr (.inr (.inl ⟨ht,rfl⟩))),?_⟩
     cases p with
     |inst c fs=>refine ra.instE λx d es n zq e1 e2 ø ø ø=> ?_;subst zq;exact own e1 e2 _ _ (O.kit _ _) (by cases c<;>exact aq e)
     |_=>exact al e
    ·split at e
     ·rename_i ht
      refine⟨.ref (W.clsA .bas), .inr (.inr (.inr (.inr ⟨ht,rfl⟩))),?_⟩
      cases p with
      |inst c fs=>refine ra.instE λx d es n zq e1 e2 ø ø ø=> ?_;subst zq;exact own e1 e2 _ _ (O.kit _ _) (by cases c<;>exact aq e)
      |_=>exact al e
     ·exact al e
end
end
section
theorem E5(x l:List Nat):(l.take x.length==x)=x.isPrefixOf l:=by
 rw[rf,beq_iff_eq,lh,O6]
 exact eq_comm
theorem pp(x y:Str)(i:Nat):subAt x y i=(an y).isPrefixOf ((an x).drop i):=by
 rw[StrLaws.subAt_eq,<-E5,bY];rfl
theorem xt{x l:List Nat}(h:x.isPrefixOf l=true):x.length<=l.length:=(lh.mp h).length_le
theorem E6(x y:Str):Txt.startswith x y=(an y).isPrefixOf (an x):=by
 unfold Txt.startswith
 rw[pp,gz]
 cases h:(an y).isPrefixOf (an x)with
 |false=>simp
 |true=>have:=xt h;rw[bY,bY]at this;simpa using this
theorem E7(x y:Str):Txt.endswith x y=(an y).isSuffixOf (an x):=by
 unfold Txt.endswith
 rw[pp]
 have l1:=bY x
 have l2:=bY y
 rw[rf,aI,decide_eq_true_eq,lh,li,List.suffix_iff_eq_drop,l1,l2]
 constructor
 ·intro zn1
  obtain⟨h1,h2⟩:=zn1
  have:=h2.eq_of_length (by rw[eh,l1,l2,Nat.sub_sub_self (fK y.length▸h1)])
  exact this
 ·intro h
  have h3:=congrArg vM h
  rw[eh]at h3
  refine⟨by rw[l1,l2]at h3;rw[fK,h3];exact ie _ _,?_⟩
  rw[<-h];exact List.prefix_refl _
theorem xu(x:List Nat):∀(s:List Nat) (k j:Nat),iT x s k=some j->k<=j/\ x.isPrefixOf (s.drop (j-k))=true/\ ∀m,m<j-k->x.isPrefixOf (s.drop m)=false
 |[],k,j,h=>by
  unfold iT at h
  split at h
  ·rename_i hx
   obtain rfl:=aq h
   simp at hx;subst hx
   simp
  ·exact al h
 |c::r,k,j,h=>by
  unfold iT at h
  split at h
  ·rename_i hx
   obtain rfl:=aq h
   simp[hx]
  ·rename_i hx
   refine bL (xu x r (k+1) j h) λh1 h2 h3=> ?_
   have e:j-k=(j-(k+1))+1:=rZ ‹_›
   refine⟨ao (bk _ _) ‹_›,by rw[e];simpa using h2,λm hm=> ?_⟩
   cases m with
   |zero=>exact vS.mpr hx
   |succ m=>simpa using h3 m (Nat.lt_of_succ_lt_succ (Nat.lt_of_lt_of_eq hm e))
theorem E8{x y:Str}{k:Nat}(h:iT (an y) (an x) 0=some k):∃r,occurrences x y 0 x.length 1=k::r:=by
 refine bL (xu _ _ _ _ h) λø h2 h3=> ?_
 rw[rj]at h2 h3
 have at_k:StrLaws.At x y x.length k \/x.length<k:=by
  refine ck (oA x.length k) (λq=> ?_) (λq=> ?_)
  ·exact .inr q
  ·refine .inl ⟨?_,by rw[pp];exact h2⟩
   have:=xt h2
   rw[eh,bY,bY]at this
   exact om _ _▸Nat.add_le_of_le_sub q this
 have at_k:StrLaws.At x y x.length k:=by
  refine ck (at_k) (λq=> ?_) (λq=> ?_)
  ·exact q
  ·exfalso
   have e:(an x).drop k=[]:=rk (by rw[bY];exact fM ‹_›)
   rw[e]at h2
   have:=h3 x.length q
   rw[rk (by rw[bY];lia)]at this
   rw[this]at h2;exact bV h2
 rcases StrLaws.occ_head x y 1 (bz (by rfl))with ⟨_,hn⟩|⟨i,r,e,ha,hn⟩
 ·exact absurd at_k (hn k)
 ·refine⟨r,?_⟩
  have:i=k:=by
   rcases Nat.lt_trichotomy i k with q|q|q
   ·have z:=h3 i q
    have:=ha.2
    rw[pp,z]at this;exact bV this
   ·exact q
   ·exact absurd at_k (hn k q)
  rw[e,this]
theorem xv(c:Nat):∀w:List Nat,c∉w->bJ c w=[w]
 |[],_=>rfl
 |d::r,h=>by
  rw[bR,not_or]at h
  rw[bJ,if_neg (λe=>h.1 e.symm),xv c r h.2]
theorem xw(c:Nat)(r:List Nat):∀w:List Nat,c∉w->bJ c (w++c::r)=w::bJ c r
 |[],_=>by rw[vT,bJ,if_pos rfl]
 |d::w,h=>by
  rw[bR,not_or]at h
  rw[mA,bJ,if_neg (λe=>h.1 e.symm),xw c r w h.2]
theorem xy(c:Nat):∀ws:List (List Nat),ws≠[]->(∀w∈ws,c∉w)->bJ c (aG [c] ws)=ws
 |[],h,_=>absurd rfl h
 |[w],_,k=>xv c w (k w (fO ..))
 |w::v::r,_,k=>by
  rw[aG,bU,List.singleton_append,xw c _ w (k w (fO ..)),xy c (v::r) (by simp) λu hu=>k u (dN _ hu)]
theorem pr(sep:Str):∀l:List Str,an (Str.join sep l)=aG (an sep) (l.map an)
 |[]=>rfl
 |[x]=>rfl
 |x::y::r=>by
  show an (x++sep++Str.join sep (y::r))=_
  rw[iX,iX,pr sep (y::r)];rfl
theorem E9(x:Str)(c:Nat):(Txt.split x ⟨#[c]⟩).map an=bJ c (an x):=by
 have e:an x=aG [c] ((Txt.split x ⟨#[c]⟩).map an):=by
  conv=>lhs;rw[<-(StrLaws.join_split x ⟨#[c]⟩)]
  rw[pr];rfl
 rw[e]
 refine(xy c _ ?_ ?_).symm
 ·intro q
  have h0:Txt.split x ⟨#[c]⟩=[]:=List.map_eq_nil_iff.mp q
  unfold Txt.split at h0
  split at h0
  ·exact mR h0
  ·split at h0
   ·exact mR h0
   ·have:=congrArg vM h0
    rw[length_partsBetween]at this
    simp at this
 ·intro w hw
  refine ay (ij.mp hw) λp hp zq2=> ?_;subst zq2
  exact(StrLaws.split_free x c) p hp
theorem pt:∀(s:List Nat) (a:Nat),(∀c∈s,48<=c)->s.foldl (λ(n:Int) (c:Nat)=>n*10+((c:Int)-48)) (a:Int)=((s.foldl (λacc c=>acc*10+(c-48)) a:Nat):Int)
 |[],_,_=>rfl
 |c::r,a,h=>by
  have hc:=h c (fO ..)
  rw[ka,ka,<-pt r _ λd hd=>h d (dN _ hd)]
  congr 1
  exact(congrArg (λz=>(a:Int)*10+z) (Int.ofNat_sub hc)).symm
theorem Fa{x:Str}(h:(an x).all bc=true)(h1:(an x).isEmpty=false)(h2:(an x).length<=300):PySem.intText? x=some (aL (an x)):=by
 have hd:NumText.AllDigits x.cps.toList:=λc hc=>by
  have:=ba.mp h c hc
  simpa[bc] using this
 rw[PySem.intText_digits hd (by intro q;rw[an,q]at h1;exact km h1) (by rw[bY]at h2;exact aV ‹_› (by rfl))]
 congr 1
 have:=pt (an x) 0 λc hc=>(hd c hc).1
 exact this.symm
end
section
section
variable{W:Wd}{X:Addr->Prop}{A:aA}{s:ah}{E:ae->ah->Prop}
theorem Fb{h:Heap}{v:ae}{x:PV}{ps:List PV}{ws:List (List Nat)}(r:Rep W X h v x)(e:cO (x::ps)=some ws):∃y u zs,v= .str y u/\ cO ps=some zs/\ ws=an y::zs:=by
 cases r with
 |str y u=>
  have e:(cO ps).map (an y:: ·)=some ws:=e
  cases q:cO ps with
  |none=>rw[q]at e;exact al e
  |some zs=>rw[q]at e;obtain rfl:=aq e;exact⟨y,u,zs,rfl,rfl,rfl⟩
 |_=>exact al e
theorem Fc{h:Heap}{vs:List ae}{xs:List PV}{ws:List (List Nat)}(r:a8 W X h vs xs)(e:cO xs=some ws):∃l:List (Str×bE),vs=strValues l/\ (l.map (·.1)).map an=ws:=
 r.ind (M:=λvs xs=>∀ws,cO xs=some ws->∃l:List (Str×bE),vs=strValues l/\ (l.map (·.1)).map an=ws) (λø e=>by obtain rfl:=aq e;exact⟨[],rfl,rfl⟩)
  (λa ø ih ws e=>by
   refine gC (Fb a e) λy u zs zq3 q zq5=> ?_;subst zq3 zq5
   refine ay (ih _ q) λl e1 e2=> ?_
   exact⟨(y,u)::l,by rw[e1];rfl,by rw[<-e2];rfl⟩) ws e
theorem xz{h:Heap}:∀(l:List (Str×bE)),a8 W X h (strValues l) (((l.map (·.1)).map an).map .str)
 |[]=> .nil
 |(x,t)::r=> .cons (.str x t) (xz r)
theorem xC(sep:Str):∀(l:List Str) (a:Nat),(l.foldl (λacc (p:Str)=>acc+p.length+sep.length) a)<=a+(aG (an sep) (l.map an)).length+sep.length
 |[],a=>ao (bk a _) (bk _ _)
 |[x],a=>by simp only[ka,C2,fe,rm,aG,bY];exact bO _
 |x::y::r,a=>by
  rw[ka]
  have:=xC sep (y::r) (a+x.length+sep.length)
  rw[fe,fe,aG,cy,cy,bY,bY]
  rw[fe]at this
  exact ao this (dq (congrArg (· +sep.length) (by rw[je,je,je])))
theorem xF{sep:Str}{l:List Str}(h:(an sep).length+(aG (an sep) (l.map an)).length<=aX):JoinOk sep l=true:=by
 unfold JoinOk tooLong
 have h1:=xC sep l 0
 have h2:=f6
 rw[bY]at h
 simp only[lj,decide_eq_false_iff_not,List.foldl_toArray,gt_iff_lt]
 exact Nat.not_lt.mpr (ao h1 (ao (dq (by rw[fK,om])) (ao h h2)))
noncomputable def iw(m:Str):String:=if m=aa "endswith" then "str.endswith" else if m=aa "startswith" then "str.startswith" else if m=aa "split" then "str.split" else if m=aa "index" then "str.index" else if m=aa "join" then "str.join" else ""
theorem xG:iw (aa "endswith")= "str.endswith" :=by decide+kernel
theorem xH:iw (aa "startswith")= "str.startswith" :=by decide+kernel
theorem xJ:iw (aa "split")= "str.split" :=by decide+kernel
theorem xK:iw (aa "index")= "str.index" :=by decide+kernel
theorem xM:iw (aa "join")= "str.join" :=by decide+kernel
theorem xN{m:Str}{x:Str}{t:bE}{pl:Sem Bool}(hm:iW.contains m=true){P:ae×List ae->ah->Prop}(hp:P (.builtin (iw m),[.str x t]) s):wpAny W.M A (getMethod (.str x t) m pl) P E s:=by
 have:m=aa "endswith" \/m=aa "startswith" \/m=aa "split" \/m=aa "index" \/m=aa "join" :=by
  simpa[iW] using hm
 rcases this with h|h|h|h|h<;>subst h
 ·rw[xG]at hp;exact GM.endswith hp
 ·rw[xH]at hp;exact GM.startswith hp
 ·rw[xJ]at hp;exact GM.split hp
 ·rw[xK]at hp;exact GM.index hp
 ·rw[xM]at hp;exact GM.join hp
theorem Fd{Q:ae->ah->Prop}(I:Inv W s)(xl:eT X s){x:Str}{t u:bE}{c:Nat}(hz:(an x).length<=aX)
  (h:∀v s',After W X s s'->Rep W X s'.heap v (.list ((bJ c (an x)).map .str))->Q v s'):
  wpAny W.M A (call (.builtin "str.split") [.str x t, .str ⟨#[c]⟩ u]) Q E s:=by
 have hsl:=f6
 rw[bY]at hz
 have hy:((⟨#[c]⟩:Str).length==0)=false:=rfl
 have hx:x.length<=sizeLine:=ao hz hsl
 have fin:∀(l:List (Str×bE)) (tk:Nat),l.map (·.1)=Txt.split x ⟨#[c]⟩->Q (.ref s.heap.objs.size) {s with toks:=tk,heap:=s.heap.push {cls:= .type "list",data:= .seq (strValues l).toArray}}:=λl tk hl=>by
  refine h _ _ (After.push I _) ?_
  rw[<-E9,<-hl]
  exact s8 xl (xz l)
 have hw:=split_weight x ⟨#[c]⟩ (bO 1)
 cases h1:(decide (x.length<(⟨#[c]⟩:Str).length)||decide (strKind x<strKind ⟨#[c]⟩))
 ·cases hf:(occurrences x ⟨#[c]⟩ 0 x.length (x.length+1)).isEmpty
  ·have hsp:Txt.split x ⟨#[c]⟩=partsBetween x (occurrences x ⟨#[c]⟩ 0 x.length (x.length+1)) (⟨#[c]⟩:Str).length:=by
    unfold Txt.split;rw[if_neg (by rw[h1];decide),if_neg (by rw[hf];decide)]
   refine call_meets C3 (oG _ _ _) C4 (C5 _ _) (meets_str_split_sep x _ t u h1 hy hf hx (by rw[<-hsp];have h9:aX+1<=sizeLine:=(by decide+kernel);exact ao (cV _ _) (ao hw (ao (fJ hz) h9)))) ?_
   rw[strsFrom_eq]
   exact fin (numbered s.toks _) _ ((numbered_texts _ _).trans hsp.symm)
  ·exact call_meets C3 (oG _ _ _) C4 (C5 _ _) (meets_str_split_not_found x _ t u h1 hy hf)
    (fin [(x,t)] s.toks ((if_neg (ne_true_of_eq_false h1)).trans (if_pos hf)).symm)
 ·exact call_meets C3 (oG _ _ _) C4 (C5 _ _) (meets_str_split_cannot_occur x _ t u h1)
   (fin [(x,t)] s.toks (if_pos h1).symm)
theorem Fe{Q:ae->ah->Prop}(I:Inv W s)(xl:eT X s){m:Str}{x:Str}{t:bE}{a:PV}{va:ae}{r:PV}(e:mW m (an x) a=some r)(ra:Rep W X s.heap va a)
  (h:∀v s',After W X s s'->Rep W X s'.heap v r->Q v s'):
  wpAny W.M A (call (.builtin (iw m)) [.str x t,va]) Q E s:=by
 unfold mW at e
 split at e
 ·rename_i hm;subst hm
  refine eR e λy e1 zq2=> ?_;subst zq2
  refine dR (ng e1 ra) λy u zq2 zq3=> ?_;subst zq2 zq3
  rw[xG];exact SC.endswith (h _ _ (After.refl I) (by rw[E7];exact .bool _))
 ·split at e
  ·rename_i hm;subst hm
   refine eR e λy e1 zq2=> ?_;subst zq2
   refine dR (ng e1 ra) λy u zq2 zq3=> ?_;subst zq2 zq3
   rw[xH];exact SC.startswith (h _ _ (After.refl I) (by rw[E6];exact .bool _))
  ·split at e
   ·rename_i hm;subst hm
    refine bl e λy e1 e=> ?_
    refine dR (ng e1 ra) λy u zq2 zq3=> ?_;subst zq2 zq3
    cases hy:an y with
    |nil=>rw[hy]at e;exact al e
    |cons c w=>
     rw[hy]at e
     refine xA (kx e) λhw e=> ?_
     refine xA (ek e) λhz zq1=> ?_;subst zq1
     rw[gR.mp hw]at hy
     obtain rfl:y=⟨#[c]⟩:=EI hy
     rw[xJ]
     exact Fd I xl hz h
   ·split at e
    ·rename_i hm;subst hm
     refine bl e λy e1 e=> ?_
     refine dR (ng e1 ra) λy u zq2 zq3=> ?_;subst zq2 zq3
     refine eR e λk q zq2=> ?_;subst zq2
     refine xE (E8 q) λrest ho=> ?_
     rw[xK];exact SC.index ho (h _ _ (After.tok I) (.int _ _))
    ·split at e
     ·rename_i hm;subst hm
      refine bl e λxs e1 e=> ?_
      refine bl e λws hws e=> ?_
      refine xA (ek e) λhlen zq1=> ?_;subst zq1
      rw[pg e1]at ra
      refine ra.lisE λa o vs' n zq4 e1 c1 d1 n1 r1=> ?_;subst zq4
      refine ay (Fc r1 hws) λl hl1 zq2=> ?_;subst zq2
      rw[xM];refine SC.join (l:=l) ⟨_,e1,c1,_,by rw[d1,<-hl1]⟩ rfl (xF hlen) λt' k=>h _ _ (After.tok I) ?_
      have:aG (an x) ((l.map (·.1)).map an)=an (Txt.join x (l.map (·.1))):=by
       unfold Txt.join;rw[O',pr]
      rw[this];exact .str _ _
     ·exact al e
theorem xO{Q:ae->ah->Prop}(I:Inv W s)(xl:eT X s){m:Str}{x:Str}{t:bE}{args:List PV}{vs:List ae}{r:PV}(e:ci m (an x) args=some r)(ra:a8 W X s.heap vs args)
  (h:∀v s',After W X s s'->Rep W X s'.heap v r->Q v s'):
  wpAny W.M A (call (.builtin (iw m)) (.str x t::vs)) Q E s:=by
 refine bl e λa e0 e=> ?_
 refine ay (ta e0 ra) λva zq1 rr=> ?_;subst zq1
 exact Fe I xl e rr h
end
end
section
set_option exponentiation.threshold 2000
section
variable{W:Wd}{X:Addr->Prop}{A:aA}{s:ah}{E:ae->ah->Prop}
theorem Ff(n:Nat)(hn:1<=n):C6 none (some (-1)) 1 (n:Int)=(0,((n-1:Nat):Int)):=by
 unfold C6
 have h1:¬((1:Int)<0):=by decide
 have h2:((-1:Int)<0):=by decide
 simp only[h1,h2,if_false,if_true]
 congr 1
 exact D2 hn
theorem Fg(n:Nat)(hn:1<=n):vU 0 ((n-1:Nat):Int) 1=n-1:=by
 unfold vU
 have h1:(1:Int)>0:=by decide
 simp only[h1,if_true,Int.ediv_one]
 exact D4 (n-1)
theorem Fh{sl:Addr}{n:Nat}{u:bE}{Q:Int×Int×Nat->ah->Prop}(hs:s.heap.IsSliceOf sl .none (.int (-1) u) .none)(hn:1<=n)(h:Q (0,1,n-1) s):
  wpAny W.M A (Pa (.ref sl) (pure (n:Int))) Q E s:=by
 refine bA (id hs) λos hos hcs hds=> ?_
 unfold Pa Builtin.Slice.sliceFields
 refine aJ (aJ (rn hos hds (x:= .none) rfl (aJ (rn hos hds (x:= .int (-1) u) rfl (aJ (rn hos hds (x:= .none) rfl (bj ?_)))))))
 refine aJ (slicePart_none ?_)
 rw[if_neg (by decide)]
 refine aJ (slicePart_none (aJ (slicePart_int (aJ (bj ?_)))))
 show wpAny _ _ (match C6 none (some (-1)) 1 (n:Int)with|(lo,hi)=>pure (lo,(1:Int),vU lo hi 1)) _ _ s
 rw[Ff n hn]
 show wpAny _ _ (pure ((0:Int),(1:Int),vU 0 ((n-1:Nat):Int) 1)) _ _ s
 rw[Fg n hn]
 exact bj h
theorem Fi(xs:Array ae):((iL (xs.size-1)).filterMap λ(k:Nat)=>xs[((0:Int)+(k:Int)*1).toNat]?).toArray=(xs.toList.dropLast).toArray:=by
 have e:(λ(k:Nat)=>xs[((0:Int)+(k:Int)*1).toNat]?)=λk=>xs[0+k]? :=by
  funext k
  have:((0:Int)+(k:Int)*1).toNat=0+k:=om _ _
  rw[this]
 rw[e]
 have:=pick_run xs 0 (xs.size-1)
 rw[List.filterMap_map]at this
 have e2:((λx=>xs[x]?)∘λx=>0+x)=λk=>xs[0+k]? :=rfl
 rw[e2]at this
 rw[this,gz,C7,oC]
theorem Fj{t sl:Addr}{items:Array ae}{u:bE}{Q:ae->ah->Prop}(ht:IsTup s.heap t items)(hs:s.heap.IsSliceOf sl .none (.int (-1) u) .none)(h1:1<=items.size)
  (h:Q (.ref s.heap.objs.size) {s with heap:=s.heap.push {cls:= .type "tuple",data:= .seq (items.toList.dropLast).toArray}})
  (hsz:items.size<=sizeLine):wpAny W.M A (getItem (.ref t) (.ref sl)) Q E s:=by
 have hdrop:sizeOk (.seq (items.toList.dropLast).toArray):=by
  show(items.toList.dropLast).toArray.size<=sizeLine
  rw[oJ,C8,oC]
  exact ao (ie _ _) ‹_›
 refine bA (id hs) λos hos hcs hds=> ?_
 have hTs:s.TypeIs (.ref sl) "slice" :=⟨os,hos,hcs⟩
 unfold getItem
 try with_reducible refine iM ?_
 first|refine aJ (bj ?_)|skip
 refine aJ (wpAny_sequenceKey ht.typeIs (by decide) ?_)
 refine aJ (wpAny_callSpecial?_slot (name:=aa "__getitem__") ht.typeIs rh
  (wpAny_call_entry rh ht.typeIs entry_tuple_getitem ?_ (args_tuple_getitem _ _)))
 show wpAny _ _ (Builtin.Tuple.tupleItemsOf (.ref t)>>=_) _ _ s
 refine aJ (tupleItemsOf_ ht ?_)
 refine aJ (wpAny_typeOf hTs ?_)
 rw[if_pos (by decide)]
 refine aJ (Fh hs h1 ?_)
 have hno:¬(((0:Int)==0&&(1:Int)==1&&(items.size-1)==items.size)=true):=by
  have:((items.size-1)==items.size)=false:=by rw[beq_eq_false_iff_ne];exact DU ‹_›
  rw[this];simp
 show wpAny _ _ (if((0:Int)==0&&(1:Int)==1&&(items.size-1)==items.size)=true then _ else _) _ _ s
 rw[if_neg hno,Fi items]
 first
  |exact aJ (m:=vV _) (ro (bj ⟨_,rfl,bj h⟩) hdrop)
  |exact aJ (m:=vV _) (ro (aJ (bj (bj ⟨_,rfl,bj h⟩))) hdrop)
  |exact aJ (aJ (m:=vV _) (ro (bj (bj ⟨_,rfl,bj h⟩)) hdrop))
  |exact aJ (aJ (m:=vV _) (ro (bj ⟨_,rfl,bj h⟩) hdrop))
theorem a8.dropLast{h:Heap}{vs:List ae}{ps:List PV}(r:a8 W X h vs ps):a8 W X h vs.dropLast ps.dropLast:=
 r.ind (M:=λvs ps=>a8 W X h vs.dropLast ps.dropLast) .nil λa b i=>by
  cases b with
  |nil=>exact .nil
  |cons=>exact .cons a i
theorem xP{h:Heap}{v:ae}{p:PV}{b:Option Nat}(e:gm p=some b)(r:Rep W X h v p):∃l:Option (Int×bE),v=partValue l/\ l.map (·.1)=b.map fc:=by
 cases p with
 |none=>obtain rfl:=aq e;obtain rfl:=r.noneI;exact⟨none,rfl,rfl⟩
 |int i=>
  refine xA (ek (c:=0<=i/\ i<=aX) e) λhi zq1=> ?_;subst zq1
  refine xE r.intI λt zq1=> ?_;subst zq1
  exact⟨some (i,t),rfl,congrArg some (rg hi.1).symm⟩
 |_=>exact al e
theorem Fk{a:PV}(h:fU a=true):a= .none:=by
 cases a with
 |none=>rfl
 |_=>exact bV h
theorem xQ{Q:ae->ah->Prop}(I:Inv W s)(xl:eT X s){value slice:ai}{ops:List ae}{va vl vu:ae}{a l u r:PV}{sl:Addr}(e:gE a l u=some r)
  (ra:Rep W X s.heap va a) (rl:Rep W X s.heap vl l) (ru:Rep W X s.heap vu u) (hsl:s.heap.get? sl=some {cls:= .type "slice",data:= .fields #[vl,vu, .none]})
  (hs:subscripted slice false va (.ref sl)=operate ops (getItem va (.ref sl)))
  (h:∀v s',After W X s s'->Rep W X s'.heap v r->Q v s'):wpAny W.M A (subscriptTail value slice va (.ref sl)) Q E s:=by
 have hsz:=f6
 cases a with
 |tuple xs=>
  refine xA (kx (c:=fU l=true) e) λhl e=> ?_
  refine bl e λi hi e=> ?_
  refine xA (kx (c:=i= -1) e) λzq0 e=> ?_;subst zq0
  refine xA (ek (c:=(!xs.isEmpty&&decide (xs.length<=aX))=true) e) λhx zq1=> ?_;subst zq1
  refine xE (ni hi ru) λt zq1=> ?_;subst zq1
  rw[Fk hl]at rl
  obtain rfl:=rl.noneI
  refine ra.tupE λa o vs n zq4 e1 c1 d1 n1 r1=> ?_;subst zq4
  rw[aI,decide_eq_true_eq]at hx
  have z:=em r1
  have hpos:1<=xs.length:=by
   cases xs with
   |nil=>cases hx.1
   |cons c r=>exact j7 _
  have hT:IsTup s.heap a vs:=⟨_,e1,c1,_,d1⟩
  exact jE hT.typeIs rh.lookup (Fj hT ⟨_,hsl,rfl,rfl⟩ (D1 z hpos) (h _ _ (After.push I _) (m9 xl r1.dropLast)) (ao (dq z) (ao hx.2 hsz))) hs
 |str xs=>
  refine bl e λlo hlo e=> ?_
  refine bl e λup hup e=> ?_
  refine xA (ek (c:=xs.length<=aX) e) λhx zq1=> ?_;subst zq1
  refine ra.strE λx t zq2 zq3=> ?_;subst zq2 zq3
  refine ay (xP hlo rl) λl1 zq1 hl=> ?_;subst zq1
  refine ay (xP hup ru) λu1 zq1 hu=> ?_;subst zq1
  rw[bY]at hx
  exact jE (oG s x t) O8.lookup (E2 I hl hu ⟨_,hsl,rfl,rfl⟩ (ao ‹_› ‹_›) h) hs
 |_=>exact al e
theorem ti{α:Type}{c:Prop}[Decidable c]{a b:α}(e:(if c then some a else none)=some b):c/\ some a=some b:=by
 by_cases h:c
 ·rw[if_pos h]at e;exact⟨h,e⟩
 ·rw[if_neg h]at e;exact al e
theorem tu{i:Int}(h:small i=true):i.natAbs.log2<1920:=by
 have h1:i.natAbs<=ir:=of_decide_eq_true h
 unfold ir at h1
 rcases Nat.eq_zero_or_pos i.natAbs with q|q
 ·rw[q];decide
 ·have:i.natAbs.log2<1001:=(Nat.log2_lt (mB q)).mpr (dt h1 (Nat.pow_lt_pow_right (by decide) (by decide)))
  exact aV ‹_› (by rfl)
theorem Fl:checkTypeCall "tuple" ⟨[],[]⟩=pure ():=by kernel_rfl
theorem Fm:checkBuiltinCall "tuple.__new__" ⟨[.type "tuple"],[]⟩=pure ():=by kernel_rfl
theorem Fo{Q:ae->ah->Prop}(I:Inv W s){a r:PV}{va:ae}(e:o6 a=some r)(ra:Rep W X s.heap va a)(h:∀v s',After W X s s'->Rep W X s'.heap v r->Q v s'):wpAny W.M A (call (.builtin "len") [va]) Q E s:=by
 have hsz:=f6
 have ht:=gn
 have h63:(2:Int)^63=9223372036854775808:=by decide
 cases a with
 |str x=>
  refine xA (ek (c:=x.length<=aX) e) λhx zq1=> ?_;subst zq1
  refine ra.strE λy t zq2 zq3=> ?_;subst zq2 zq3
  rw[bY]at h hx
  exact P.len_str (Int.not_le.mpr (zl hx (by decide+kernel))) (h _ _ (After.tok I) (.int _ _))
 |tuple x=>
  refine xA (ek (c:=x.length<=aX) e) λhx zq1=> ?_;subst zq1
  refine ra.tupE λa o ws n zq4 e1 c1 d1 n1 r1=> ?_;subst zq4
  have z:=em r1
  rw[<-z]at h
  exact PyProof.Rows.len_tuple ⟨_,e1,c1,_,d1⟩ (zl (kl z hx) (by decide+kernel)) (h _ _ (After.tok I) (.int _ _))
 |list x=>
  refine xA (ek (c:=x.length<=aX) e) λhx zq1=> ?_;subst zq1
  refine ra.lisE λa o ws n zq4 e1 c1 d1 n1 r1=> ?_;subst zq4
  have z:=em r1
  rw[<-z]at h
  exact call_len_list ⟨_,e1,c1,_,d1⟩ (zl (kl z hx) (by decide+kernel)) (h _ _ (After.tok I) (.int _ _))
 |_=>exact al e
theorem Fp{Q:ae->ah->Prop}(I:Inv W s){a r:PV}{va:ae}(e:sA a=some r)(ra:Rep W X s.heap va a)(h:∀v s',After W X s s'->Rep W X s'.heap v r->Q v s'):wpAny W.M A (call (.type "int") [va]) Q E s:=by
 refine bl e λx e1 e=> ?_
 refine xA (ek e) λhx zq1=> ?_;subst zq1
 refine dR (ng e1 ra) λy t zq2 zq3=> ?_;subst zq2 zq3
 rw[aI,aI,decide_eq_true_eq,lj]at hx
 exact KIN.call_text (Fa hx.1.1 hx.1.2 hx.2) (by have:=hx.2;rw[bY]at this;exact aV ‹_› (by rfl)) (h _ _ (After.tok I) (.int _ _))
theorem Fq{Q:ae->ah->Prop}(I:Inv W s){a r:PV}{va:ae}(e:sB a=some r)(ra:Rep W X s.heap va a)(h:∀v s',After W X s s'->Rep W X s'.heap v r->Q v s'):wpAny W.M A (call (.type "str") [va]) Q E s:=by
 refine bl e λi e1 e=> ?_
 refine xA (ek e) λhi zq1=> ?_;subst zq1
 refine xE (ni e1 ra) λt zq1=> ?_;subst zq1
 exact P.str_of_int (tu hi) (h _ _ (After.tok I) (.str _ _))
theorem Fs{Q:ae->ah->Prop}(I:Inv W s)(hg:A.guards=some [])(hu:A.units<=9000){a r:PV}{va:ae}(e:sC a=some r)(ra:Rep W X s.heap va a)(h:∀v s',After W X s s'->Rep W X s'.heap v r->Q v s'):wpAny W.M A (call (.builtin "repr") [va]) Q E s:=by
 obtain⟨xs,e1,e⟩:=C9.mp e
 rw[pg e1]at ra
 obtain⟨b,-,-,-,rfl,-⟩:=id ra.lisI
 have fin:∀(d:Str),(PV.list xs).flat 4=true->(PV.list xs).py.showable=true->(PV.list xs).py.hasDict=false->(PV.list xs).py.depth<=5->(PV.list xs).py.shown=d->d.length<=sizeLine->r= .str (an d)->
   wpAny W.M A (call (.builtin "repr") [.ref b]) Q E s:=by
  intro d k1 k2 k3 k4 k5 k6 k7
  obtain⟨as,rd⟩:=ra.reads 4 k1
  subst k5
  exact repr_of_reads' rd k2 (PyData.noDict_hsm k3) hg (dt (ey (ao (fJ k4) (bz rfl)) A.units) (jD hu)) (λø ø e=>e) (λh' u tk hk=>h _ _ (After.of_keeps I hk) (k7▸ .str _ _)) k6
 cases xs with
 |nil=>exact fin (aa "[]") rfl rfl rfl (by decide) rfl (by decide+kernel) (aq e).symm
 |cons q qs=>
  obtain⟨hq,e⟩:=kx (c:=qs.isEmpty=true) e
  obtain rfl:=gR.mp hq
  obtain⟨i,e2,e⟩:=C9.mp e
  obtain⟨hi,rfl⟩:=ek e
  obtain rfl:=s9 e2
  have hl:=tu hi
  refine fin (aa "[" ++aa (toString i)++aa "]") rfl (by show(decide (i.natAbs.log2<1920)&&true)=true;rw[decide_eq_true hl];rfl) rfl (bz rfl) ?_ ?_ ?_
  ·skip
   rfl
  ·have e9:=int_text_length_le (k:=1920) (by decide) hl
   have e8:(aa (toString i)).length=(toString i).length:=PySem.ofString_length _
   have e7:∀a b:Str,(a++b).length=a.length+b.length:=Str.length_append
   rw[e7,e7,e8,mD]
   show 1+_+1<=_
   exact ao (fJ (ey e9 1)) (bz rfl)
  ·rw[iX,iX];rfl
theorem Ft{Q:ae->ah->Prop}(I:Inv W s)(xl:eT X s){args:List PV}{vs:List ae}{r:PV}(e:sD args=some r)(ra:a8 W X s.heap vs args)(h:∀v s',After W X s s'->Rep W X s'.heap v r->Q v s'):wpAny W.M A (call (.type "tuple") vs) Q E s:=by
 have hsz:=f6
 cases args with
 |nil=>
  obtain rfl:=ra.nilI
  obtain rfl:=aq e
  refine callType_new F.called_tuple (by decide) Fl Fm (λobj=>F.args_object_init_1 obj) F.entry_tuple_new E3 ⟨⟨_,ee _ rfl,rfl⟩,?_⟩
  exact h _ _ (After.push I _) (m9 xl .nil)
 |cons b bs=>
  refine bl e λa e0 e=> ?_
  refine ay (ta e0 ra) λva zq1 rr=> ?_;subst zq1
  refine bl e λxs e1 e=> ?_
  refine xA (ek e) λhx zq1=> ?_;subst zq1
  rw[pg e1]at rr
  refine rr.lisE λa o ws n zq4 e1 c1 d1 n1 r1=> ?_;subst zq4
  have z:=em r1
  refine call_tuple_list ⟨_,e1,c1,_,d1⟩ (λh' hk=>h _ _ (After.of_keeps I λb o e=>bX _ (hk b o e)) ?_) (se ‹_› ‹_› (by rfl))
  refine .tuple (vs:=ws) (n:=0) (ee _ rfl) rfl rfl (λhx=> ?_) (r1.mono (λø ø ø e=>bX _ (hk _ _ e)) λø ø ø n=>n)
  refine xE (xl _ hx) λo e=> ?_
  exact jg _ (eA (hk _ _ e))
theorem Fu{Q:ae->ah->Prop}(I:Inv W s)(xl:eT X s){a r:PV}{va:ae}(e:sE a=some r)(ra:Rep W X s.heap va a)(h:∀v s',After W X s s'->Rep W X s'.heap v r->Q v s'):wpAny W.M A (call (.type "list") [va]) Q E s:=by
 have hsz:=f6
 refine bl e λxs e1 e=> ?_
 refine xA (ek e) λhx zq1=> ?_;subst zq1
 rw[xb e1]at ra
 refine ra.tupE λa o ws n zq4 e1 c1 d1 n1 r1=> ?_;subst zq4
 have z:=em r1
 refine call_list_seq a (.inr rfl) e1 c1 d1 (λh' c' hk hn=>h _ _ (After.of_keeps I hk) ?_) (se ‹_› ‹_› (by rfl))
 exact .list hn rfl rfl xl.fresh (r1.mono (λø ø ø e=>hk _ _ e) λø ø ø n=>n)
theorem tw{Q:ae->ah->Prop}(I:Inv W s)(xl:eT X s)(hg:A.guards=some [])(hu:A.units<=9000){f:Str}{args:List PV}{vs:List ae}{r:PV}(e:cW f args=some r)(ra:a8 W X s.heap vs args)
  (h:∀v s',After W X s s'->Rep W X s'.heap v r->Q v s'):∃fv,fX f=some fv/\ wpAny W.M A (call fv vs) Q E s:=by
 have one:∀{g:PV->Option PV},(iQ args).bind g=some r->∃a va,vs=[va]/\ Rep W X s.heap va a/\ g a=some r:=λe=>by
  refine bl e λa e0 e=> ?_
  refine ay (ta e0 ra) λva zq1 rr=> ?_;subst zq1
  exact⟨a,va,rfl,rr,e⟩
 unfold cW at e
 unfold fX
 split at e
 ·rename_i hf
  obtain⟨a,va,rfl,ra,e⟩:=one e
  exact⟨_,if_pos hf,Fo I e ra h⟩
 rename_i hf1
 rw[if_neg hf1]
 split at e
 ·rename_i hf
  obtain⟨a,va,rfl,ra,e⟩:=one e
  exact⟨_,if_pos hf,Fp I e ra h⟩
 rename_i hf1
 rw[if_neg hf1]
 split at e
 ·rename_i hf
  obtain⟨a,va,rfl,ra,e⟩:=one e
  exact⟨_,if_pos hf,Fq I e ra h⟩
 rename_i hf1
 rw[if_neg hf1]
 split at e
 ·rename_i hf
  obtain⟨a,va,rfl,ra,e⟩:=one e
  exact⟨_,if_pos hf,Fs I hg hu e ra h⟩
 rename_i hf1
 rw[if_neg hf1]
 split at e
 ·rename_i hf
  exact⟨_,if_pos hf,Ft I xl e ra h⟩
 rename_i hf1
 rw[if_neg hf1]
 split at e
 ·rename_i hf
  obtain⟨a,va,rfl,ra,e⟩:=one e
  exact⟨_,if_pos hf,Fu I xl e ra h⟩
 exact al e
end
end
section
noncomputable def cK{γ β:Type}(W:Wd)(X:Addr->Prop)(l:List av)(R:Heap->γ->β->Prop)(s:ah)(r:Res β)(Q:γ->ah->Prop)(E:ae->ah->Prop):Prop:=
 (∀v p s',r= .ok p->After W X s s'->R s'.heap v p->Q v s')/\ (∀e c s',r= .exc c->f0 W X l e c s s'->E (.ref e) s')
noncomputable def SC{γ β:Type}(W:Wd)(X:Addr->Prop)(l:List av)(R:Heap->γ->β->Prop)(n:Nat)(A:aA)(t:Sem γ)(s:ah)(r:Res β):Prop:=
 r≠ .stuck->A.depth+n<=900->A.units+10*n<=9000->∀Q E,cK W X l R s r Q E->wpAny W.M A t Q E s
noncomputable def RV(W:Wd)(X:Addr->Prop)(h:Heap)(v:ae)(p:PV):Prop:=Rep W X h v p
noncomputable def RB(_:Heap)(v:Bool)(p:Bool):Prop:=v=p
noncomputable def RL(W:Wd)(X:Addr->Prop)(h:Heap)(v:List ae)(p:List PV):Prop:=a8 W X h v p
section
variable{g:Bool}{W:Wd}{X:Addr->Prop}{A:aA}{s:ah}{l:List av}{n:Nat}
theorem cK.after{γ β:Type}{R:Heap->γ->β->Prop}{s s₁:ah}{r:Res β}{Q:γ->ah->Prop}{E:ae->ah->Prop}(F:cK W X l R s r Q E)(a:After W X s s₁):cK W X l R s₁ r Q E:=
 ⟨λv p s' e b q=>F.1 v p s' e (a.trans b) q,λe c s' h f=>F.2 e c s' h (f.before a)⟩
theorem cK.ok{γ β:Type}{R:Heap->γ->β->Prop}{s s₁:ah}{p:β}{v:γ}{Q:γ->ah->Prop}{E:ae->ah->Prop}(F:cK W X l R s (.ok p) Q E)(a:After W X s s₁)(h:R s₁.heap v p):Q v s₁:=F.1 v p s₁ rfl a h
theorem ft{α β:Type}{r:Res α}{f:α->Res β}(h:r.bind f≠ .stuck):r≠ .stuck:=λe=>h (by rw[e];rfl)
theorem SC.step{γ β γ' β':Type}{R:Heap->γ->β->Prop}{R':Heap->γ'->β'->Prop}{r1:Res β}{f:β->Res β'}{t1:Sem γ}(h1:SC W X l R n A t1 s r1)(hne:r1.bind f≠ .stuck)(hd:A.depth+n<=900)(hu:A.units+10*n<=9000)
  {Q:γ'->ah->Prop} {E:ae->ah->Prop} (F:cK W X l R' s (r1.bind f) Q E) {K:γ->ah->Prop}
  (hK:∀v p s₁,r1= .ok p->After W X s s₁->R s₁.heap v p->f p≠ .stuck->cK W X l R' s₁ (f p) Q E->K v s₁):wpAny W.M A t1 K E s:=by
 refine h1 (ft hne) hd hu K E ⟨λv p s' e a q=> ?_,λe c s' h fl=> ?_⟩
 ·subst e
  exact hK v p s' rfl a q hne (F.after a)
 ·subst h
  exact F.2 e c s' rfl fl
theorem er{α:Type}{o:Option α}(h:aE o≠ .stuck):∃a,o=some a:=by
 cases o with
 |none=>exact absurd rfl h
 |some a=>exact⟨a,rfl⟩
structure jF(g:Bool)(W:Wd)(sc:Scope)(env:av):Prop where
 code:g=true->∃c P,env.code= .ref c/\ (c,P)∈W.tabs
 scope:env.scope.kind= .function
 names:∀x k,sc.names.lookup x=some k->k≠ .cell->k≠ .free->env.kindOf x=some k
 globals:env.globals=mainGlobals
 builtins:env.builtins=builtinsNs
 nocell:∀y∈env.scope.names,y.2≠ .cell
structure Here(g:Bool)(W:Wd)(X:Addr->Prop)(A:aA)(l:List av)(s:ah)(sc:Scope)(env:av)(ρ:aj):Prop where
 ready:Ready W X A l s
 envk:jF g W sc env
 loc:m8 W X s.heap env.locals ρ
 kinds:pe sc ρ
theorem Here.after{sc:Scope}{env:av}{ρ:aj}{s s₁:ah}(H:Here g W X A l s sc env ρ)(a:After W X s s₁):Here g W X A l s₁ sc env ρ:=
 ⟨H.ready.after a,H.envk,H.loc.after a,H.kinds⟩
noncomputable def aM(g:Bool)(W:Wd)(n:Nat)(E:Ev):Prop:=
 (∀sc e X A l s env ρ,Here g W X A l s sc env ρ->SC W X l (RV W X) n A (eval e env) s (E.ev sc e ρ))/\
 (∀sc e X A l s env ρ,Here g W X A l s sc env ρ->SC W X l RB n A (isTrue e env (eval e env)) s (E.tst sc e ρ))
variable{sc:Scope}{env:av}{ρ:aj}
theorem Fv(H:Here g W X A l s sc env ρ){c:jh}{k:Nat}{p:ax}:SC W X l (RV W X) n A (eval (.Constant c k p) env) s (match c with
  | .none=> .ok .none
  | .bool b=> .ok (.bool b)
  | .int i=> .ok (.int i)
  | .str x=> .ok (.str (an x))
  |_=> .stuck):=λhne hd hu Q E F=>by
 cases c with
 |none=>exact wpAny_Constant_none (F.ok (After.refl H.ready.inv) .none)
 |bool b=>exact wpAny_Constant_bool (F.ok (After.refl H.ready.inv) (.bool b))
 |int i=>exact d0 (F.ok (After.tok H.ready.inv) (.int i _))
 |str x=>exact kb (F.ok (After.tok H.ready.inv) (.str x _))
 |_=>exact absurd rfl hne
theorem Fw(H:Here g W X A l s sc env ρ){x:Str}{p:ax}{v:PV}(hv:ρ.lookup x=some v)(hd:(x==("__debug__" :Str))=false):SC W X l (RV W X) n A (eval (.Name x p) env) s (.ok v):=λhne ø ø Q E F=>by
 refine dJ H.loc λhX m hn hl=> ?_
 refine ay (hl x v hv) λw e1 e2=> ?_
 exact dO (dI H.envk.scope (H.envk.names _ _ (H.kinds x v hv) (by decide) (by decide)) hn e1 (F.ok (After.refl H.ready.inv) e2)) hd
theorem iY(H:Here g W X A l s sc env ρ){x:Str}(h:cf sc x=true):env.kindOf x=some .globalImplicit:=
 H.envk.names _ _ (cG h) (by decide) (by decide)
theorem pu(O:aZ W)(H:Here g W X A l s sc env ρ){x:Str}{p:ax}{v:ae}{Q E:ae->ah->Prop}(hk:env.kindOf x=some .globalImplicit)(hd:(x==("__debug__" :Str))=false) (hv:W.mg x=some v) (h:Q v s):
  wpAny W.M A (eval (.Name x p) env) Q E s:=
 Calls.Name_function_global H.envk.scope hk (Calls.loadGlobal_global (H.envk.globals▸H.ready.inv.g O) hv h) hd
theorem kA(O:aZ W)(H:Here g W X A l s sc env ρ){x:Str}{p:ax}{v:ae}{Q E:ae->ah->Prop}(hk:env.kindOf x=some .globalImplicit)(hd:(x==("__debug__" :Str))=false) (hm:W.mg x=none) (hv:W.mb x=some v) (h:Q v s):
  wpAny W.M A (eval (.Name x p) env) Q E s:=
 Calls.Name_function_global H.envk.scope hk (Calls.loadGlobal_builtin (H.envk.globals▸H.ready.inv.g O) hm (H.envk.builtins▸H.ready.inv.b O) hv h) hd
theorem Fx{E₀:Ev}(hE:aM g W n E₀)(O:aZ W)(H:Here g W X A l s sc env ρ){a b:ai}{op:mx}{p:ax}:
  SC W X l (RV W X) n A (eval (.BinOp a op b p) env) s ((E₀.ev sc a ρ).bind λx=>(E₀.ev sc b ρ).bind λy=>aE (bH op x y)):=λhne hd hu Q E F=>by
 refine fP ((hE.1 sc a X A l s env ρ H).step hne hd hu F λva x s₁ ø a1 r1 ne1 F1=> ?_)
 refine(hE.1 sc b X A l s₁ env ρ (H.after a1)).step ne1 hd hu F1 λvb y s₂ ø a2 r2 ne2 F2=> ?_
 refine xE (er ne2) λz hz=> ?_
 rw[hz]at F2
 have H2:=(H.after a1).after a2
 exact jC H2.ready.inv H2.ready.xlt hz (a2.rep r1) r2 (λv s' a3 r3=>F2.ok a3 r3)
theorem Fy{E₀:Ev}(hE:aM g W n E₀)(H:Here g W X A l s sc env ρ){a:ai}{p:ax}:
  SC W X l (RV W X) n A (eval (.UnaryOp .Not a p) env) s ((E₀.ev sc a ρ).bind λv=>(aE (d4 v)).bind λt=> .ok (.bool !t)):=λhne hd hu Q E F=>by
 refine vW ((hE.1 sc a X A l s env ρ H).step hne hd hu F λva x s₁ ø a1 r1 ne1 F1=> ?_)
 refine xE (er (ft ne1)) λz hz=> ?_
 rw[hz]at F1
 exact PyProof.Rows.not_of (te a1.inv hz r1 λs' a2=>F1.1 _ _ _ rfl a2 (.bool _))
theorem Fz{E₀:Ev}(hE:aM g W n E₀)(H:Here g W X A l s sc env ρ){t b o:ai}{p:ax}:
  SC W X l (RV W X) n A (eval (.IfExp t b o p) env) s ((E₀.tst sc t ρ).bind λc=>if c then E₀.ev sc b ρ else E₀.ev sc o ρ):=λhne hd hu Q E F=>by
 refine wpAny_IfExp ((hE.2 sc t X A l s env ρ H).step hne hd hu F λc c' s₁ ø a1 r1 ne1 F1=> ?_)
 subst r1
 cases c with
 |true=>exact hE.1 sc b X A l s₁ env ρ (H.after a1) ne1 hd hu Q E F1
 |false=>exact hE.1 sc o X A l s₁ env ρ (H.after a1) ne1 hd hu Q E F1
theorem xR{e:ai}{r:List ai}(h:(e.ctorIdx !=22)=true):starEach (e::r) env=(false,eval e env)::starEach r env:=by
 cases e<;>first|rfl|exact bV h
theorem tA:∀{es:List ai},bv es=true->starEach es env=es.map λe=>(false,eval e env)
 |[],_=>rfl
 |e::r,h=>by
  have h:=ei (a:=e.ctorIdx !=22) (b:=bv r) h
  rw[xR h.1,(tA (es:=r) h.2)];rfl
noncomputable def et(env:av)(es:List ai):List (Bool×Sem ae):=es.map λe=>(false,eval e env)
theorem nq(es:List ai):(et env es).any (·.1)=false:=by simp[et]
theorem dS(pos:ax){es:List ai}(h:bv es=true):backTo pos (starEach es env)=et env es:=by
 rw[tA h]
 unfold et
 rw[backTo]
 simp
theorem pw{E₀:Ev}(hE:aM g W n E₀):∀(es:List ai) (s:ah),Here g W X A l s sc env ρ->SC W X l (RL W X) n A (spliced (et env es)) s (bK (E₀.ev sc) es ρ)
 |[],s,H=>λhne hd hu Q E F=>Calls.spliced_nil (cK.ok F (After.refl H.ready.inv) .nil)
 |e::r,s,H=>λhne hd hu Q E F=>by
  refine Calls.spliced_cons ((hE.1 sc e X A l s env ρ H).step hne hd hu F λv x s₁ ø a1 r1 ne1 F1=> ?_)
  refine(pw hE r s₁ (H.after a1)).step ne1 hd hu F1 λvs xs s₂ ø a2 r2 ne2 F2=> ?_
  exact cK.ok F2 (After.refl a2.inv) (.cons (a2.rep r1) r2)
theorem tB{ev:ai->aj->Res PV}:∀{es:List ai} {xs:List PV},bK ev es ρ= .ok xs->xs.length=es.length
 |[],xs,h=>by obtain rfl:=de h;rfl
 |e::r,xs,h=>by
  unfold bK at h
  cases h1:ev e ρ with
  |ok v=>
   rw[h1,eF]at h
   cases h2:bK ev r ρ with
   |ok vs=>rw[h2,eF]at h;obtain rfl:=de h;rw[gj,gj,tB h2]
   |exc c=>rw[h2,wN]at h;exact ju h
   |stuck=>rw[h2,wO]at h;exact iq h
  |exc c=>rw[h1,wN]at h;exact ju h
  |stuck=>rw[h1,wO]at h;exact iq h
theorem xS{es:List ai}(h:es.length<=64):es.length<=sizeLine:=ao h (by decide+kernel)
theorem FA{E₀:Ev}(hE:aM g W n E₀)(H:Here g W X A l s sc env ρ){es:List ai}{k:Nat}{p:ax}(hs:bv es=true)(hl:es.length<=64):
  SC W X l (RV W X) n A (eval (.Tuple es k p) env) s ((bK (E₀.ev sc) es ρ).bind λvs=> .ok (.tuple vs)):=λhne hd hu Q E F=>by
 refine wpAny_Tuple ?_
 rw[dS p hs]
 refine(pw hE es s H).step hne hd hu F λvs xs s₁ h1 a1 r1 ne1 F1=>⟨?_,?_⟩
 ·rw[r1.length,tB h1];exact xS hl
 ·exact cK.ok F1 (After.push a1.inv _) (m9 (H.after a1).ready.xlt r1)
theorem FD{E₀:Ev}(hE:aM g W n E₀)(H:Here g W X A l s sc env ρ){es:List ai}{p:ax}(hs:bv es=true)(hl:es.length<=64):
  SC W X l (RV W X) n A (eval (.List es p) env) s ((bK (E₀.ev sc) es ρ).bind λvs=> .ok (.list vs)):=λhne hd hu Q E F=>by
 refine wpAny_List ?_
 rw[dS p hs]
 refine(pw hE es s H).step hne hd hu F λvs xs s₁ h1 a1 r1 ne1 F1=>⟨?_,?_⟩
 ·rw[r1.length,tB h1];exact xS hl
 ·exact cK.ok F1 (After.push a1.inv _) (s8 (H.after a1).ready.xlt r1)
end
end
section
noncomputable def b7(W:Wd)(fv:ae):Prop:=∀(A:aA) (E:ae->ah->Prop) (s:ah) (pos:ax) (first:List ae) (args:List (Bool×Sem ae)) (Q:ae->ah->Prop),args.any (·.1)=false->
 wpAny W.M A (evalArgs fv true args []) (λa s₁=>Inv W s₁/\ wpAny W.M A (call fv (first++a.pos) a.kw) Q E s₁) E s->wpAny W.M A (callWith pos fv first args []) Q E s
noncomputable def f8(W:Wd)(n:Nat)(fv:ae)(args:List PV)(r:Res PV):Prop:=
 ∀(A:aA) (l:List av) (s:ah) (X:Addr->Prop) (vs:List ae),Ready W X A l s->a8 W X s.heap vs args->SC W X l (RV W X) n A (call fv vs) s r
structure bu(W:Wd)(n:Nat)(C:Calls):Prop where
 fn:∀f,jw.contains f=true->∃fv,W.mg f=some fv/\ b7 W fv/\ ∀args,f8 W n fv args (C.fn f args)
 meth:∀c m,g8.contains m=true->∃fv,(∀(A:aA) (E:ae->ah->Prop) (s:ah) (x d:Addr) (es:List eO) (k:Nat) (pl:Sem Bool) (P:ae×List ae->ah->Prop),Inv W s->
   s.heap.get? x=some (instObj (W.clsA c) d)->s.heap.get? d=some (dictOf es k)->shadowIn (some (dictOf es k)) m=some false->P (fv,[.ref x]) s->wpAny W.M A (getMethod (.ref x) m pl) P E s)/\ b7 W fv/\ ∀args,f8 W n fv args (C.meth c m args)
 eq:∀c fs d gs,∀(A:aA) (l:List av) (s:ah) (X:Addr->Prop) (va vb:ae),Ready W X A l s->Rep W X s.heap va (.inst c fs)->Rep W X s.heap vb (.inst d gs)->
   SC W X l (RV W X) n A (compareOp .Eq va vb) s (C.meth c (aa "__eq__") [.inst c fs, .inst d gs])
 prop:∀c a fs,dL.contains a=false->∀(A:aA) (l:List av) (s:ah) (X:Addr->Prop) (va:ae),Ready W X A l s->Rep W X s.heap va (.inst c fs)->
   SC W X l (RV W X) n A (getAttr va a true) s (C.prop c a (.inst c fs))
 glob:∀x v,C.glob x=some v->∃y t,W.mg x=some (.str y t)/\ v= .str (an y)
section
variable{g:Bool}{W:Wd}{X:Addr->Prop}{A:aA}{s:ah}{l:List av}{n:Nat}{sc:Scope}{env:av}{ρ:aj}{C:Calls}
theorem xT{a:PV}{x:Bool}(h:sy a=some x):a= .bool x:=by
 cases a with
 |bool y=>obtain rfl:=aq h;rfl
 |_=>exact al h
theorem xU{a:PV}{x:aY×List (Str×PV)}(h:sz a=some x):a= .inst x.1 x.2:=by
 cases a with
 |inst c fs=>obtain rfl:=aq h;rfl
 |_=>exact al h
theorem FE{op:e6}{a b:PV}{c:aY}(h:sG op a b=some c):op= .Eq/\ ∃fs d gs,a= .inst c fs/\ b= .inst d gs:=by
 refine xA (kx h) λho h=> ?_
 refine bl h λp hp h=> ?_
 refine eR h λq hq h=> ?_
 subst h
 exact⟨ho,_,_,_,xU hp,xU hq⟩
noncomputable def RT(_:Heap)(v:ae)(b:Bool):Prop:=v= .bool b
theorem FF(hC:bu W n C){op:e6}{va vb:ae}{a b:PV}(H:Ready W X A l s)(ra:Rep W X s.heap va a)(rb:Rep W X s.heap vb b):SC W X l RT n A (compareOp op va vb) s (bn C op a b):=λhne hd hu Q E F=>by
 unfold bn at hne F
 cases hi:sG op a b with
 |some c=>
  rw[hi]at hne F
  refine xA (FE hi) λho hx=> ?_
  refine dc hx λfs d gs ha hb=> ?_
  subst ho ha hb
  refine(hC.eq c fs d gs A l s X va vb H ra rb).step hne hd hu F λv p s₁ ø a1 r1 ne1 F1=> ?_
  refine xE (er ne1) λt ht=> ?_
  rw[ht]at F1
  rw[xT ht]at r1
  exact F1.1 _ _ _ rfl (After.refl a1.inv) r1.boolI
 |none=>
  rw[hi]at hne F
  refine xE (er hne) λz hz=> ?_
  rw[hz]at F
  exact ky hz ra rb (ao (bk _ _) ‹_›) (F.1 _ _ _ rfl (After.refl H.inv) rfl)
end
end
section
section
variable{g:Bool}{W:Wd}{X:Addr->Prop}{A:aA}{s:ah}{l:List av}{n:Nat}{sc:Scope}{env:av}{ρ:aj}{C:Calls}{E₀:Ev}
theorem pz{op:e6}{r:ai}(h:cQ r=true):behindInMarks op r=false:=by
 cases r<;>first|rfl|exact bV h
theorem Res.bind_assoc{α β γ:Type}(r:Res α)(f:α->Res β)(g:β->Res γ):(r.bind f).bind g=r.bind λa=>(f a).bind g:=by cases r<;>rfl
theorem ix{b:Bool}{Q:Bool->ah->Prop}{E:ae->ah->Prop}(h:Q b s):wpAny W.M A (truthy (.bool b)) Q E s:=CV h
theorem lO(hE:aM g W n E₀)(hC:bu W n C){γ β:Type}{R:Heap->γ->β->Prop}{op:e6}{va:ae}{a:PV}{r:ai}{f:PV×Bool->Res β}(H:Here g W X A l s sc env ρ)(ra:Rep W X s.heap va a)
  (hne:(gF C (E₀.ev sc) op a r ρ).bind f≠ .stuck) (hd:A.depth+n<=900) (hu:A.units+10*n<=9000) {Q:γ->ah->Prop} {E:ae->ah->Prop} (F:cK W X l R s ((gF C (E₀.ev sc) op a r ρ).bind f) Q E)
  {K:ae->ae->ah->Prop} (hK:∀vb b t s₁,After W X s s₁->Rep W X s₁.heap vb b->f (b,t)≠ .stuck->cK W X l R s₁ (f (b,t)) Q E->K vb (.bool t) s₁):
  wpAny W.M A (eval r env) (λvb s₁=>wpAny W.M A (compareOp op va vb) (λc s₂=>K vb c s₂) E s₁) E s:=by
 unfold gF at hne F
 rw[Res.bind_assoc]at hne F
 refine(hE.1 sc r X A l s env ρ H).step hne hd hu F λvb b s₁ ø a1 r1 ne1 F1=> ?_
 rw[Res.bind_assoc]at ne1 F1
 refine(FF hC (H.after a1).ready (a1.rep ra) r1).step ne1 hd hu F1 λc t s₂ ø a2 r2 ne2 F2=> ?_
 cases r2
 exact hK vb b t s₂ (a1.trans a2) (a2.rep r1) ne2 F2
theorem xV{C:Calls}{ev:ai->aj->Res PV}{l:ai}{ops:List e6}{rs:List ai}{ρ:aj}(h:fW C ev l ops rs ρ≠ .stuck):
  (∃op r,ops=[op]/\ rs=[r]/\ cQ r=true/\ fW C ev l ops rs ρ=lG C ev l op r ρ) \/(∃op op' r r',ops=[op,op']/\ rs=[r,r']/\ cQ r' =true/\ fW C ev l ops rs ρ=lH C ev l op op' r r' ρ):=by
 cases ops with
 |nil=>exact absurd rfl h
 |cons op ops=>cases rs with
  |nil=>exact absurd rfl h
  |cons r rs=>cases ops with
   |nil=>
    by_cases q:rs.isEmpty=true/\ cQ r=true
    ·exact .inl ⟨op,r,rfl,by rw[gR.mp q.1],q.2,if_pos q⟩
    ·exact absurd (if_neg q) h
   |cons op' ops=>cases rs with
    |nil=>exact absurd rfl h
    |cons r' rs=>
     by_cases q:ops.isEmpty=true/\ rs.isEmpty=true/\ cQ r' =true
     ·exact .inr ⟨op,op',r,r',by rw[gR.mp q.1],by rw[gR.mp q.2.1],q.2.2,if_pos q⟩
     ·exact absurd (if_neg q) h
theorem FG(hE:aM g W n E₀)(hC:bu W n C)(H:Here g W X A l s sc env ρ){a:ai}{ops:List e6}{rs:List ai}{p:ax}:
  SC W X l (RV W X) n A (eval (.Compare a ops rs p) env) s ((fW C (E₀.ev sc) a ops rs ρ).bind λt=> .ok (.bool t)):=λhne hd hu Q E F=>by
 rcases xV (ft hne)with ⟨op,r,rfl,rfl,hr,e⟩|⟨op,op',r,r',rfl,rfl,hr,e⟩
 ·rw[e,lG,Res.bind_assoc]at hne F
  refine C' (hm:=pz hr) ((hE.1 sc a X A l s env ρ H).step hne hd hu F λva x s₁ ø a1 r1 ne1 F1=> ?_)
  rw[Res.bind_assoc]at ne1 F1
  refine lO hE hC (H.after a1) r1 ne1 hd hu F1 λvb b t s₂ a2 r2 ne2 F2=> ?_
  exact F2.1 _ _ _ rfl (After.refl a2.inv) (.bool t)
 ·rw[e,lH,Res.bind_assoc]at hne F
  refine Compare_chain (hm:=pz hr) ((hE.1 sc a X A l s env ρ H).step hne hd hu F λva x s₁ ø a1 r1 ne1 F1=> ?_)
  rw[Res.bind_assoc]at ne1 F1
  refine chain_link (lO hE hC (H.after a1) r1 ne1 hd hu F1 λvb b t s₂ a2 r2 ne2 F2=> ?_)
  refine ix ?_
  cases t with
  |true=>
   simp only[if_true]at ne2 F2 ⊢
   refine chain_last ?_
   rw[Res.bind_assoc]at ne2 F2
   refine lO hE hC ((H.after a1).after a2) r2 ne2 hd hu F2 λvb b t s₃ a3 r3 ne3 F3=> ?_
   exact F3.1 _ _ _ rfl (After.refl a3.inv) (.bool t)
  |false=>exact F2.1 _ _ _ rfl (After.refl a2.inv) (.bool false)
theorem FH(hE:aM g W n E₀)(hC:bu W n C)(H:Here g W X A l s sc env ρ){a:ai}{ops:List e6}{rs:List ai}{p:ax}{wh:Sem ae}:
  SC W X l RB n A (isTrue (.Compare a ops rs p) env wh) s (fW C (E₀.ev sc) a ops rs ρ):=λhne hd hu Q E F=>by
 rcases xV hne with ⟨op,r,rfl,rfl,hr,e⟩|⟨op,op',r,r',rfl,rfl,hr,e⟩
 ·rw[e,lG]at hne F
  refine oK (hm:=pz hr) ((hE.1 sc a X A l s env ρ H).step hne hd hu F λva x s₁ ø a1 r1 ne1 F1=> ?_)
  refine lO hE hC (H.after a1) r1 ne1 hd hu F1 λvb b t s₂ a2 r2 ne2 F2=> ?_
  exact ix (F2.1 _ _ _ rfl (After.refl a2.inv) rfl)
 ·rw[e,lH]at hne F
  refine isTrue_chain (hm:=pz hr) ((hE.1 sc a X A l s env ρ H).step hne hd hu F λva x s₁ ø a1 r1 ne1 F1=> ?_)
  refine test_link (lO hE hC (H.after a1) r1 ne1 hd hu F1 λvb b t s₂ a2 r2 ne2 F2=> ?_)
  refine ix ?_
  cases t with
  |true=>
   simp only[if_true]at ne2 F2 ⊢
   refine test_last ?_
   refine lO hE hC ((H.after a1).after a2) r2 ne2 hd hu F2 λvb b t s₃ a3 r3 ne3 F3=> ?_
   exact ix (F3.1 _ _ _ rfl (After.refl a3.inv) rfl)
  |false=>exact F2.1 _ _ _ rfl (After.refl a2.inv) rfl
theorem tC(hE:aM g W n E₀){op:BoolOp}{p:ax}:∀(es:List ai) (s:ah),Here g W X A l s sc env ρ->SC W X l (RV W X) n A (eval (.BoolOp op es p) env) s (fk (E₀.ev sc) op es ρ)
 |[],s,H=>λhne=>absurd rfl hne
 |[e],s,H=>λhne hd hu Q E F=>BoolOp_one (hE.1 sc e X A l s env ρ H hne hd hu Q E F)
 |e::e'::r,s,H=>λhne hd hu Q E F=>by
  have step:∀{K:ae->Bool->ah->Prop},(∀va t s₂,After W X s s₂->(∃x,Rep W X s₂.heap va x/\ (if jv op t then .ok x else fk (E₀.ev sc) op (e'::r) ρ)≠ .stuck/\ cK W X l (RV W X) s₂ (if jv op t then .ok x else fk (E₀.ev sc) op (e'::r) ρ) Q E)->K va t s₂)->wpAny W.M A (eval e env) (λv s₁=>wpAny W.M A (truthy v) (λc s₂=>K v c s₂) E s₁) E s:=λ{K} hK=>by
   refine(hE.1 sc e X A l s env ρ H).step hne hd hu F λva x s₁ ø a1 r1 ne1 F1=> ?_
   refine xE (er (ft ne1)) λz hz=> ?_
   rw[hz]at F1 ne1
   refine te a1.inv hz r1 λs₂ a2=>hK va z s₂ (a1.trans a2) ⟨x,a2.rep r1,ne1,cK.after F1 a2⟩
  cases op with
  |And=>
   refine BoolOp_and (step λva t s₂ a2 hx=> ?_)
   refine bA hx λx r2 ne2 F2=> ?_
   cases t with
   |true=>exact tC hE (e'::r) s₂ (H.after a2) ne2 hd hu Q E F2
   |false=>exact F2.1 _ _ _ rfl (After.refl a2.inv) r2
  |Or=>
   refine BoolOp_or (step λva t s₂ a2 hx=> ?_)
   refine bA hx λx r2 ne2 F2=> ?_
   cases t with
   |false=>exact tC hE (e'::r) s₂ (H.after a2) ne2 hd hu Q E F2
   |true=>exact F2.1 _ _ _ rfl (After.refl a2.inv) r2
theorem tD(hE:aM g W n E₀){op:BoolOp}{p:ax}{wh:Sem ae}:∀(es:List ai) (s:ah),Here g W X A l s sc env ρ->SC W X l RB n A (isTrue (.BoolOp op es p) env wh) s (iU (E₀.tst sc) op es ρ)
 |[],s,H=>λhne hd hu Q E F=>by
  cases op with
  |And=>exact isTrue_and_nil (F.1 _ _ _ rfl (After.refl H.ready.inv) rfl)
  |Or=>exact isTrue_or_nil (F.1 _ _ _ rfl (After.refl H.ready.inv) rfl)
 |e::r,s,H=>λhne hd hu Q E F=>by
  cases op with
  |And=>
   refine isTrue_and ((hE.2 sc e X A l s env ρ H).step hne hd hu F λc t s₁ ø a1 r1 ne1 F1=> ?_)
   subst r1
   cases c with
   |true=>exact tD hE r s₁ (H.after a1) ne1 hd hu Q E F1
   |false=>exact F1.1 _ _ _ rfl (After.refl a1.inv) rfl
  |Or=>
   refine isTrue_or ((hE.2 sc e X A l s env ρ H).step hne hd hu F λc t s₁ ø a1 r1 ne1 F1=> ?_)
   subst r1
   cases c with
   |false=>exact tD hE r s₁ (H.after a1) ne1 hd hu Q E F1
   |true=>exact F1.1 _ _ _ rfl (After.refl a1.inv) rfl
theorem xW(hE:aM g W n E₀)(H:Here g W X A l s sc env ρ)(e:ai)(he:isTrue e env (eval e env)=(do let v<-eval e env;standAt e.pos;holding [v] (truthy v))):SC W X l RB n A (isTrue e env (eval e env)) s ((E₀.ev sc e ρ).bind λv=>aE (d4 v)):=λhne hd hu Q E F=>by
 refine isTrue_plain (he:=he) ((hE.1 sc e X A l s env ρ H).step hne hd hu F λva x s₁ ø a1 r1 ne1 F1=> ?_)
 refine xE (er ne1) λz hz=> ?_
 rw[hz]at F1
 exact te a1.inv hz r1 λs₂ a2=>F1.1 _ _ _ rfl a2 rfl
theorem FI(hE:aM g W n E₀)(H:Here g W X A l s sc env ρ)(x:ai)(p:ax):SC W X l RB n A (isTrue (.UnaryOp .Not x p) env (eval (.UnaryOp .Not x p) env)) s ((E₀.tst sc x ρ).bind λt=> .ok !t):=λhne hd hu Q E F=>by
 refine isTrue_not ((hE.2 sc x X A l s env ρ H).step hne hd hu F λc t s₁ ø a1 r1 ne1 F1=> ?_)
 subst r1
 exact F1.1 _ _ _ rfl (After.refl a1.inv) rfl
theorem FJ(hE:aM g W n E₀)(H:Here g W X A l s sc env ρ)(t b o:ai)(p:ax):SC W X l RB n A (isTrue (.IfExp t b o p) env (eval (.IfExp t b o p) env)) s ((E₀.tst sc t ρ).bind λc=>if c then E₀.tst sc b ρ else E₀.tst sc o ρ):=λhne hd hu Q E F=>by
 refine isTrue_IfExp ((hE.2 sc t X A l s env ρ H).step hne hd hu F λc t s₁ ø a1 r1 ne1 F1=> ?_)
 subst r1
 cases c with
 |true=>exact hE.2 sc b X A l s₁ env ρ (H.after a1) ne1 hd hu Q E F1
 |false=>exact hE.2 sc o X A l s₁ env ρ (H.after a1) ne1 hd hu Q E F1
theorem xX(hE:aM g W n E₀)(hC:bu W n C)(H:Here g W X A l s sc env ρ)(e:ai):SC W X l RB n A (isTrue e env (eval e env)) s (wZ C E₀ sc e ρ):=by
 cases e with
 |UnaryOp op x p=>
  cases op with
  |Not=>exact FI hE H x p
  |_=>exact xW hE H _ rfl
 |BoolOp op vs p=>exact tD hE _ s H
 |IfExp t b o p=>exact FJ hE H t b o p
 |Compare l ops rs p=>exact FH hE hC H
 |_=>exact xW hE H _ rfl
end
end
section
section
variable{g:Bool}{W:Wd}{X:Addr->Prop}{A:aA}{s:ah}{l:List av}{n:Nat}{sc:Scope}{env:av}{ρ:aj}{C:Calls}{E₀:Ev}
theorem xY(hE:aM g W n E₀)(H:Here g W X A l s sc env ρ)(o:Option ai):SC W X l (RV W X) n A (evalPart o env) s (match o with|some e=>E₀.ev sc e ρ|none=> .ok .none):=by
 cases o with
 |none=>exact λhne hd hu Q E F=>bj (F.1 _ _ _ rfl (After.refl H.ready.inv) .none)
 |some e=>exact hE.1 sc e X A l s env ρ H
theorem FK(hE:aM g W n E₀)(H:Here g W X A l s sc env ρ){v:ai}{lo up:Option ai}{p pos:ax}:
  SC W X l (RV W X) n A (eval (.Subscript v (.Slice lo up none p) pos) env) s ((E₀.ev sc v ρ).bind λa=>
   (match lo with|some e=>E₀.ev sc e ρ|none=> .ok .none).bind λl=>
   (match up with|some e=>E₀.ev sc e ρ|none=> .ok .none).bind λu=>aE (gE a l u)):=λhne hd hu Q E F=>by
 refine oM ((hE.1 sc v X A l s env ρ H).step hne hd hu F λva x s₁ ø a1 r1 ne1 F1=> ?_)
 refine wpAny_Slice ((xY hE (H.after a1) lo).step ne1 hd hu F1 λvl y s₂ ø a2 r2 ne2 F2=> ?_)
 refine(xY hE ((H.after a1).after a2) up).step ne2 hd hu F2 λvu z s₃ ø a3 r3 ne3 F3=> ?_
 refine bj (a:=j') ?_
 refine xE (er ne3) λq hq=> ?_
 rw[hq]at F3
 have H3:=((H.after a1).after a2).after a3
 have a4:After W X s₃ {s₃ with heap:=s₃.heap.push {cls:= .type "slice",data:= .fields #[vl,vu, .none]}}:=After.push H3.ready.inv _
 have H4:=H3.after a4
 refine xQ (ops:=[.ref s₃.heap.objs.size,va]) H4.ready.inv H4.ready.xlt hq (a4.rep (a3.rep (a2.rep r1))) (a4.rep (a3.rep r2)) (a4.rep r3) (ee _ rfl) rfl λv s' a5 r5=> ?_
 exact F3.1 _ _ _ rfl (a4.trans a5) r5
theorem FL(hE:aM g W n E₀)(H:Here g W X A l s sc env ρ){v i:ai}{pos:ax}(hi:∀a b c p,i≠ .Slice a b c p):
  SC W X l (RV W X) n A (eval (.Subscript v i pos) env) s ((E₀.ev sc v ρ).bind λa=>(E₀.ev sc i ρ).bind λk=>aE (fi a k)):=λhne hd hu Q E F=>by
 refine oM ((hE.1 sc v X A l s env ρ H).step hne hd hu F λva x s₁ ø a1 r1 ne1 F1=> ?_)
 refine(hE.1 sc i X A l s₁ env ρ (H.after a1)).step ne1 hd hu F1 λvi y s₂ ø a2 r2 ne2 F2=> ?_
 refine xE (er ne2) λq hq=> ?_
 rw[hq]at F2
 refine xp a2.inv hq (a2.rep r1) r2 (λo i' => ?_) λv s' a5 r5=>F2.1 _ _ _ rfl a5 r5
 cases i with
 |Slice a b c p=>exact absurd rfl (hi a b c p)
 |_=>rfl
theorem pA(hE:aM g W n E₀)(H:Here g W X A l s sc env ρ){f:ae}{es:List ai}{γ β:Type}{R:Heap->γ->β->Prop}{g:List PV->Res β}(hne:(bK (E₀.ev sc) es ρ).bind g≠ .stuck)(hd:A.depth+n<=900)(hu:A.units+10*n<=9000)
  {Q:γ->ah->Prop} {E:ae->ah->Prop} (F:cK W X l R s ((bK (E₀.ev sc) es ρ).bind g) Q E) {K:Args->ah->Prop}
  (hK:∀vs xs s₁,After W X s s₁->a8 W X s₁.heap vs xs->g xs≠ .stuck->cK W X l R s₁ (g xs) Q E->K ⟨vs,[]⟩ s₁):wpAny W.M A (evalArgs f true (et env es) []) K E s:=by
 have key:=(pw hE es s H).step hne hd hu F (K:=λvs s₁=>K ⟨vs,[]⟩ s₁) λvs xs s₁ ø a1 r1 ne1 F1=>hK vs xs s₁ a1 r1 ne1 F1
 cases es with
 |nil=>exact evalArgs_nil3 (by
   have:=key
   unfold et at this
   simp only[rm]at this
   obtain h:=hK [] [] s (After.refl H.ready.inv) .nil hne F
   exact h)
 |cons e r=>exact Calls.evalArgs_plain key
theorem iZ(id:String):b7 W (.builtin id):=λA E s pos first args Q ha h=>Calls.callWith_builtin ha (fL h (λø ø x=>x.2) λø ø x=>x)
theorem go(T:String):b7 W (.type T):=λA E s pos first args Q ha h=>PySem.callWith_type ha (fL h (λø ø x=>x.2) λø ø x=>x)
theorem FM{a:Addr}{o:Obj}{fd:dv}(h1:W.base.get? a=some o)(h2:o.data= .func fd):b7 W (.ref a):=λA E s pos first args Q ha h=>
 Calls.callWith_function (o:=o) (fd:=fd) (fL h (λx s₁ y=>⟨⟨y.1.stays _ _ h1,h2⟩,y.2⟩) λø ø x=>x)
theorem FN(O:aZ W)(H:Here g W X A l s sc env ρ){f:Str}{p:ax}{fv:ae}{Q E:ae->ah->Prop}(hg:cf sc f=true)(hdb:(f==("__debug__" :Str))=false) (hf:fX f=some fv) (h:Q fv s):wpAny W.M A (eval (.Name f p) env) Q E s:=by
 have key:f∈blt/\ W.mb f=some fv/\ b7 W fv:=by
  unfold fX at hf
  split at hf
  ·rename_i e;subst e;obtain rfl:=aq hf;exact⟨by simp[blt],(O.mbv _ (by decide+kernel)).trans (by kernel_rfl),iZ _⟩
  ·split at hf
   ·rename_i e;subst e;obtain rfl:=aq hf;exact⟨by simp[blt],(O.mbv _ (by decide+kernel)).trans (by kernel_rfl),go _⟩
   ·split at hf
    ·rename_i e;subst e;obtain rfl:=aq hf;exact⟨by simp[blt],(O.mbv _ (by decide+kernel)).trans (by kernel_rfl),go _⟩
    ·split at hf
     ·rename_i e;subst e;obtain rfl:=aq hf;exact⟨by simp[blt],(O.mbv _ (by decide+kernel)).trans (by kernel_rfl),iZ _⟩
     ·split at hf
      ·rename_i e;subst e;obtain rfl:=aq hf;exact⟨by simp[blt],(O.mbv _ (by decide+kernel)).trans (by kernel_rfl),go _⟩
      ·split at hf
       ·rename_i e;subst e;obtain rfl:=aq hf;exact⟨by simp[blt],(O.mbv _ (by decide+kernel)).trans (by kernel_rfl),go _⟩
       ·exact al hf
 exact kA O H (iY H hg) hdb (O.nogl f key.1) key.2.1 h
theorem FO{f:Str}{fv:ae}(hf:fX f=some fv):b7 W fv:=by
 unfold fX at hf
 split at hf
 ·obtain rfl:=aq hf;exact iZ _
 ·split at hf
  ·obtain rfl:=aq hf;exact go _
  ·split at hf
   ·obtain rfl:=aq hf;exact go _
   ·split at hf
    ·obtain rfl:=aq hf;exact iZ _
    ·split at hf
     ·obtain rfl:=aq hf;exact go _
     ·split at hf
      ·obtain rfl:=aq hf;exact go _
      ·exact al hf
theorem FP(O:aZ W)(hE:aM g W n E₀)(hC:bu W n C)(H:Here g W X A l s sc env ρ){f:Str}{p pos:ax}{es:List ai}(hg:cf sc f=true)(hdb:(f==("__debug__" :Str))=false) (hs:bv es=true) (hca:o7 f=true):
  SC W X l (RV W X) n A (eval (.Call (.Name f p) es [] pos) env) s ((bK (E₀.ev sc) es ρ).bind λvs=>iV C f vs):=λhne hd hu Q E F=>by
 refine gA rfl ?_
 rw[dS pos hs]
 unfold iV at hne F
 cases hb:fX f with
 |some fv=>
  simp only[hb]at hne F
  refine FN O H hg hdb hb ?_
  refine FO hb A E s pos [] _ Q (nq es) (pA hE H hne hd hu F λvs xs s₁ a1 r1 ne1 F1=>⟨a1.inv,?_⟩)
  refine xE (er ne1) λr hr=> ?_
  rw[hr]at F1
  refine ay (tw (Q:=Q) (E:=E) a1.inv (H.after a1).ready.xlt H.ready.guards (ao (bk _ _) ‹_›) hr r1 λv s' a2 r2=>F1.1 _ _ _ rfl a2 r2) λfv' h1 h2=> ?_
  rw[hb]at h1
  obtain rfl:=aq h1
  exact h2
 |none=>
  simp only[hb]at hne F
  have hf:jw.contains f=true:=by simpa[o7,hb] using hca
  refine bA (hC.fn f hf) λfv hv hc hk=> ?_
  refine pu O H (iY H hg) hdb hv ?_
  refine hc A E s pos [] _ Q (nq es) (pA hE H hne hd hu F λvs xs s₁ a1 r1 ne1 F1=>⟨a1.inv,?_⟩)
  exact hk xs A l s₁ X vs (H.after a1).ready r1 ne1 hd hu Q E F1
theorem FQ(O:aZ W)(hE:aM g W n E₀)(H:Here g W X A l s sc env ρ){e:ai}{f t:Str}{p p' pos:ax}(hf:f=aa "isinstance") (hg:cf sc f=true) (hs:bv [e]=true) (ht:cf sc t=true):
  SC W X l (RV W X) n A (eval (.Call (.Name f p) [e, .Name t p'] [] pos) env) s ((E₀.ev sc e ρ).bind λv=>(aE (dK v t)).bind λb=> .ok (.bool b)):=λhne hd hu Q E F=>by
 subst hf
 refine gA rfl ?_
 have he:starEach [e,jk t p'] env=[(false,eval e env),(false,eval (.Name t p') env)]:=xR (ei hs).1
 rw[he]
 refine kA O H (iY H hg) (by decide+kernel) (O.nogl _ (by simp[blt])) ((O.mbv _ (by decide+kernel)).trans (by kernel_rfl:bootBuiltins "isinstance" =some (.builtin "isinstance"))) ?_
 refine iZ (W:=W) "isinstance" A E s pos [] _ Q rfl (Calls.evalArgs_plain (Calls.spliced_cons ((hE.1 sc e X A l s env ρ H).step hne hd hu F λva x s₁ ø a1 r1 ne1 F1=> ?_)))
 refine xE (er (ft ne1)) λb hb=> ?_
 rw[hb]at F1
 have H1:=H.after a1
 refine ay (E4 (Q:=Q) (E:=E) (A:=A) O a1.inv hb r1 λs' a2=>F1.1 _ _ _ rfl a2 (.bool _)) λtv hc hw=> ?_
 refine Calls.spliced_cons ?_
 have fin:∀u,u=tv->wpAny W.M A (spliced []) (λvs s₂=>Inv W s₂/\ wpAny W.M A (call (.builtin "isinstance") ([]++(⟨va::u::vs,[]⟩:Args).pos) (⟨va::u::vs,[]⟩:Args).kw) Q E s₂) E s₁:=λu hu' =>by
  subst hu'
  exact Calls.spliced_nil ⟨a1.inv,hw⟩
 have hk:=iY H1 ht
 rcases hc with ⟨h1,h2⟩|⟨h1,h2⟩|⟨h1,h2⟩|⟨h1,h2⟩|⟨h1,h2⟩
 ·subst h1;exact kA O H1 hk (by decide+kernel) (O.nogl _ (by simp[blt])) ((O.mbv _ (by decide+kernel)).trans (by kernel_rfl:bootBuiltins "str" =some (.type "str"))) (fin _ h2.symm)
 ·subst h1;exact kA O H1 hk (by decide+kernel) (O.nogl _ (by simp[blt])) ((O.mbv _ (by decide+kernel)).trans (by kernel_rfl:bootBuiltins "int" =some (.type "int"))) (fin _ h2.symm)
 ·subst h1;exact kA O H1 hk (by decide+kernel) (O.nogl _ (by simp[blt])) ((O.mbv _ (by decide+kernel)).trans (by kernel_rfl:bootBuiltins "tuple" =some (.type "tuple"))) (fin _ h2.symm)
 ·subst h1;exact pu O H1 hk (by decide+kernel) O.tupN (fin _ h2.symm)
 ·subst h1;exact pu O H1 hk (by decide+kernel) O.basN (fin _ h2.symm)
end
end
section
section
variable{g:Bool}{W:Wd}{X:Addr->Prop}{A:aA}{s:ah}{l:List av}{n:Nat}{sc:Scope}{env:av}{ρ:aj}{C:Calls}{E₀:Ev}
theorem xZ{o:ai}{a:Str}{w:Sem ae}(h:fo o=true):attributeBase o a env w=w:=by
 cases o<;>first|rfl|exact bV h
theorem pB{o:ai}{name:Str}{apos pos:ax}{es:List ai}{Q E:ae->ah->Prop}(hb:fo o=true)(hs:bv es=true)(hl:es.length<29)(hline:(apos.endLine==pos.line)=true)
  (h:wpAny W.M A (eval o env) (λov s₁=>∀pl,wpAny W.M A (getMethod ov name pl) (λp s₂=>wpAny W.M A (callWith pos p.1 p.2 (et env es) []) Q E s₂) E s₁) E s):
  wpAny W.M A (eval (.Call (.Attribute o name apos) es [] pos) env) Q E s:=by
 rw[arm_eval_Call,xZ hb,dS pos hs]
 refine aJ (fL h (λov s₁ h₁=> ?_) λø ø e=>e)
 refine aJ (lk ?_)
 have hform:methodCallForm (es.length+([]:List Keyword).length) (et env es) (backToKw pos (keywordEach [] env))=true:=by
  unfold methodCallForm
  have h1:(et env es).all (λx=> !x.1)=true:=by simp[et]
  have h2:(backToKw pos (keywordEach [] env))=[]:=rfl
  rw[h1,h2]
  simp
  exact aV ‹_› (by rfl)
 have hpos:methodCallPos true o env apos pos=pure pos:=by unfold methodCallPos;simp[hline]
 unfold methodCall
 rw[hform]
 refine aJ (iM (fL (h₁ _) (λp s₂ h₂=> ?_) λø ø e=>e))
 exact aJ (wpAny_of_eq hpos h₂)
theorem FR(hE:aM g W n E₀){pos:ax}{m:Str}{x:Str}{t:bE}{es:List ai}{pl:Sem Bool}(hm:iW.contains m=true)(H:Here g W X A l s sc env ρ)(hne:((bK (E₀.ev sc) es ρ).bind λvs=>aE (ci m (an x) vs))≠ .stuck)
  (hd:A.depth+n<=900) (hu:A.units+10*n<=9000) {Q E:ae->ah->Prop} (F:cK W X l (RV W X) s ((bK (E₀.ev sc) es ρ).bind λvs=>aE (ci m (an x) vs)) Q E):
  wpAny W.M A (getMethod (.str x t) m pl) (λp s₂=>wpAny W.M A (callWith pos p.1 p.2 (et env es) []) Q E s₂) E s:=by
 refine xN hm ?_
 refine iZ (W:=W) (iw m) A E s pos [.str x t] _ Q (nq es) (pA hE H hne hd hu F λvs xs s₁ a1 r1 ne1 F1=>⟨a1.inv,?_⟩)
 refine xE (er ne1) λr hr=> ?_
 rw[hr]at F1
 exact xO a1.inv (H.after a1).ready.xlt hr r1 λv s' a2 r2=>F1.1 _ _ _ rfl a2 r2
theorem ya{h:Heap}{a:Str}{es:List eO}{fs:List (Str×PV)}(r:dg W X h es fs):(∀v,fs.lookup a=some v->∃e,es.find? (·.key.isStr a)=some e/\ Rep W X h e.val v)/\ (fs.lookup a=none->es.find? (·.key.isStr a)=none/\ es.any (·.refKey)=false):=
 r.ind (M:=λes fs=>(∀v,fs.lookup a=some v->∃e,es.find? (·.key.isStr a)=some e/\ Rep W X h e.val v)/\ (fs.lookup a=none->es.find? (·.key.isStr a)=none/\ es.any (·.refKey)=false)) ⟨λv e=>(by exact al e),λø=>⟨rfl,rfl⟩⟩
  (λ{hs y t v es p fs} r _ ih=>by
   have ks:(gB y t).isStr a=(a==y):=by
    show(y==a)=(a==y)
    rw[rf,beq_iff_eq,beq_iff_eq];exact eq_comm
   rw[ca,List.find?_cons]
   simp only[ks]
   cases q:a==y with
   |true=>exact⟨λw e=>by obtain rfl:=aq e;exact⟨_,rfl,r⟩,λe=>lD e⟩
   |false=>
    refine⟨λw e=>ih.1 w e,λe=>⟨(ih.2 e).1,?_⟩⟩
    rw[rt,(ih.2 e).2];rfl)
theorem FS{h:Heap}{a:Str}{es:List eO}{k:Nat}{fs:List (Str×PV)}{p:PV}(r:dg W X h es fs)(e:fs.lookup a=some p):∃v,lookIn a (dictOf es k)=some (some v)/\ Rep W X h v p:=by
 refine ay ((ya r).1 p e) λen h1 h2=> ?_
 refine⟨en.val,?_,h2⟩
 unfold lookIn dictOf
 simp only[h1]
theorem FT{h:Heap}{a:Str}{es:List eO}{k:Nat}{fs:List (Str×PV)}(r:dg W X h es fs)(e:fs.lookup a=none):lookIn a (dictOf es k)=some none:=by
 refine xA ((ya r).2 e) λh1 h2=> ?_
 unfold lookIn dictOf
 simp only[h1]
 simp[h2]
theorem yb{h:Heap}{v:ae}{p:PV}(r:Rep W X h v p):handedIn v=true:=by cases r<;>rfl
theorem FU(O:aZ W)(hE:aM g W n E₀)(hC:bu W n C)(H:Here g W X A l s sc env ρ){o:ai}{a:Str}{p:ax}(hb:fo o=true):
  SC W X l (RV W X) n A (eval (.Attribute o a p) env) s ((E₀.ev sc o ρ).bind λov=>match ov with
   | .inst c fs=>if dL.contains a then aE (fs.lookup a)else C.prop c a (.inst c fs)
   |_=> .stuck):=λhne hd hu Q E F=>by
 have e:eval (.Attribute o a p) env=(do
  let ov<-attributeBase o a env (eval o env)
  standAt p.atName
  let r<-holding [ov] (getAttr ov a true)
  letTemporaryGo o ov r
  pure r):=rfl
 rw[e,xZ hb]
 refine aJ ((hE.1 sc o X A l s env ρ H).step hne hd hu F λvo x s₁ ø a1 r1 ne1 F1=> ?_)
 refine aJ (lk ?_)
 cases x with
 |inst c fs=>
  dsimp only at ne1 F1
  have fin:wpAny W.M A (getAttr vo a true) Q E s₁->wpAny W.M A (holding [vo] (getAttr vo a true)>>=λr=>letTemporaryGo o vo r>>=λø=>pure r) Q E s₁:=λh=>
   aJ (iM (fL h (λr s₃ h₃=>aJ (wpAny_letTemporaryGo (bj h₃))) λø ø x=>x))
  refine fin ?_
  split at ne1
  ·rename_i hf
   simp only[hf,if_true]at F1
   refine xE (er ne1) λq hq=> ?_
   rw[hq]at F1
   refine r1.instE λx d es k zq4 e1 e2 n1 n2 fl=> ?_;subst zq4
   refine ay (FS (k:=k) fl hq) λv hv rv=> ?_
   refine ay (O.cd c) λcd hcd hhd=> ?_
   have hfo:findObj W.K (W.clsA c) (some (dictOf es k)) a=some (.value v):=by
    unfold findObj
    rw[hcd,O.fld c a (by simpa using hf)]
    simp only[Option.bind_some]
    unfold PySem.W.ownOf
    rw[hhd,if_pos rfl];simp only[hv]
    rfl
   exact get_value (a1.inv.kin O) (kz e1 e2) (O.ga c) hfo (yb rv) (F1.1 _ _ _ rfl (After.tok a1.inv) rv)
  ·rename_i hf
   simp only[hf,if_false]at F1
   exact hC.prop c a fs (by simpa using hf) A l s₁ X vo (H.after a1).ready r1 ne1 hd hu Q E F1
 |_=>exact absurd rfl ne1
end
end
section
structure tE(W:Wd)(X:Addr->Prop)(h h₁:Heap)(I:Addr)(fp:List Addr)(P:Nat->ae->Prop)(St:Nat->Heap->Prop)(xs:List PV):Prop where
 walks:∀A':aA,A'.handled=none->Walks ig W.w A' I fp [I] xs.length P St
 start:St 0 h₁
 fps:∀b∈fp,b=I \/∃o,h.get? b=some o/\ ¬X b/\ dh o
 own:∀i h',St i h'->∃o,h'.get? I=some o/\ dh o/\ ∀m,¬h'.Ns I m
 vals:∀i v,P i v->∃p,xs[i]? =some p/\ Rep W X h v p
 few:xs.length<=aX
section
variable{g:Bool}{W:Wd}{X:Addr->Prop}{A:aA}{s:ah}{l:List av}{n:Nat}{sc:Scope}{env:av}{ρ:aj}{C:Calls}{E₀:Ev}
theorem kB{h:Heap}{a:Addr}{o:Obj}(e:h.get? a=some o)(hd:∀es ep,o.data≠ .dict es ep)(m:Str->Option ae):¬h.Ns a m:=λ⟨o',es,ep,e',d,_⟩=>by
 rw[e]at e';cases e'
 exact hd _ _ d
theorem pC{v:ae}{p:PV}{xs:List PV}(e:bP p=some xs)(r:Rep W X s.heap v p){Q E:ae->ah->Prop}
  (h:∀o fp P St,dh o->tE W X s.heap (s.heap.push o) s.heap.objs.size fp P St xs->Q (.ref s.heap.objs.size) {s with heap:=s.heap.push o}):wpAny W.M A (pyIter v) Q E s:=by
 unfold bP at e
 cases r with
 |none=>exact al e
 |bool=>exact al e
 |int=>exact al e
 |inst=>exact al e
 |str x t=>
  refine xA (ti e) λhx e=> ?_
  obtain rfl:=aq e
  have hl:((an x).map λc=>PV.str [c]).length=x.cps.size:=by simp[an]
  have hv:∀i v,SignAt x i v->∃p,((an x).map λc=>PV.str [c])[i]? =some p/\ Rep W X s.heap v p:=λi v hs=>by
   refine dR hs λc u h1 zq3=> ?_;subst zq3
   refine⟨.str [c],?_, .str ⟨#[c]⟩ u⟩
   rw[ll]
   have:(an x)[i]? =some c:=by simpa[an] using h1
   rw[this];rfl
  cases ha:x.cps.all (· <128)
  ·refine wpAny_pyIter_wide ha (h _ [s.heap.objs.size] (SignAt x) (λi h' =>h'.IsStrIter s.heap.objs.size "str_iterator" x t i) ⟨⟨_,by simp[fq],rfl⟩,by intro ø ø q;cases q⟩
    ⟨λA' hA=>hl▸Walks.strWide hA _ x t,⟨_,ee _ rfl,rfl,rfl⟩,λb hb=> .inl (by simpa using hb),λi h' st=> ?_,hv,by simpa using hx⟩)
   refine bA st λo h1 h2 h3=> ?_
   exact⟨o,h1,⟨⟨_,by simp[fq],h2⟩,by rw[h3];intro ø ø q;cases q⟩,kB h1 (by rw[h3];intro ø ø q;cases q)⟩
  ·refine wpAny_pyIter_ascii ha (h _ [s.heap.objs.size] (SignAt x) (λi h' =>h'.IsStrIter s.heap.objs.size "str_ascii_iterator" x t i) ⟨⟨_,by simp[fq],rfl⟩,by intro ø ø q;cases q⟩
    ⟨λA' hA=>hl▸Walks.strAscii hA _ x t,⟨_,ee _ rfl,rfl,rfl⟩,λb hb=> .inl (by simpa using hb),λi h' st=> ?_,hv,by simpa using hx⟩)
   refine bA st λo h1 h2 h3=> ?_
   exact⟨o,h1,⟨⟨_,by simp[fq],h2⟩,by rw[h3];intro ø ø q;cases q⟩,kB h1 (by rw[h3];intro ø ø q;cases q)⟩
 | @tuple a o vs k _ e1 c1 d1 n1 r1=>
  refine xA (ti e) λhx e=> ?_
  cases aq e
  have z:=em r1
  have hne:a≠s.heap.objs.size:=λq=>jg _ (q▸eA e1)
  refine wpAny_pyIter_tuple ⟨_,e1,c1,_,d1⟩ (h _ [s.heap.objs.size,a] (λi v=>vs[i]? =some v) (λi h' =>h'.IsTupleIter s.heap.objs.size a i/\ h'.IsTuple a vs) ⟨⟨_,by simp[fq],rfl⟩,by intro ø ø q;cases q⟩
   ⟨λA' hA=>z▸Walks.tuple hA _ a hne vs,⟨⟨_,ee _ rfl,rfl,rfl⟩,⟨_,bX _ e1,c1,_,d1⟩⟩,λb hb=> ?_,λi h' st=> ?_,λi v hv=> ?_,hx⟩)
  ·rcases bR.mp hb with q|q
   ·exact .inl q
   ·rw[du]at q;subst q;exact .inr ⟨_,e1,n1,⟨_,by simp[fq],c1⟩,by rw[d1];intro ø ø q;cases q⟩
  ·refine bA st.1 λo h1 h2 h3=> ?_
   exact⟨o,h1,⟨⟨_,by simp[fq],h2⟩,by rw[h3];intro ø ø q;cases q⟩,kB h1 (by rw[h3];intro ø ø q;cases q)⟩
  ·have hlt:i<xs.length:=by
    rw[<-z]
    rcases oA i vs.size with q|q
    ·exact q
    ·rw[vQ q]at hv;exact al hv
   refine ay (r1.get (fQ hlt)) λv' h1 h2=> ?_
   have:vs.toList[i]? =some v:=by simpa using hv
   rw[this]at h1;obtain rfl:=aq h1
   exact⟨_,fQ hlt,h2⟩
 | @list a o vs k _ e1 c1 d1 n1 r1=>
  refine xA (ti e) λhx e=> ?_
  cases aq e
  have z:=em r1
  have hne:a≠s.heap.objs.size:=λq=>jg _ (q▸eA e1)
  refine wpAny_pyIter_list ⟨_,e1,c1,_,d1⟩ (h _ [s.heap.objs.size,a] (λi v=>vs[i]? =some v) (λi h' =>h'.IsListIter s.heap.objs.size a i/\ h'.IsList a vs) ⟨⟨_,by simp[fq],rfl⟩,by intro ø ø q;cases q⟩
   ⟨λA' hA=>z▸Walks.list hA _ a hne vs,⟨⟨_,ee _ rfl,rfl,rfl⟩,⟨_,bX _ e1,c1,_,d1⟩⟩,λb hb=> ?_,λi h' st=> ?_,λi v hv=> ?_,hx⟩)
  ·rcases bR.mp hb with q|q
   ·exact .inl q
   ·rw[du]at q;subst q;exact .inr ⟨_,e1,n1,⟨_,by simp[fq],c1⟩,by rw[d1];intro ø ø q;cases q⟩
  ·refine bA st.1 λo h1 h2 h3=> ?_
   exact⟨o,h1,⟨⟨_,by simp[fq],h2⟩,by rw[h3];intro ø ø q;cases q⟩,kB h1 (by rw[h3];intro ø ø q;cases q)⟩
  ·have hlt:i<xs.length:=by
    rw[<-z]
    rcases oA i vs.size with q|q
    ·exact q
    ·rw[vQ q]at hv;exact al hv
   refine ay (r1.get (fQ hlt)) λv' h1 h2=> ?_
   have:vs.toList[i]? =some v:=by simpa using hv
   rw[this]at h1;obtain rfl:=aq h1
   exact⟨_,fQ hlt,h2⟩
end
structure be(W:Wd)(X:Addr->Prop)(C:Addr)(s s':ah):Prop where
 inv:Inv W s'
 keep:∀b o,¬X b->s.heap.get? b=some o->s'.heap.get? b=some o
 ns:∀L m,L≠C->s.heap.Ns L m->s'.heap.Ns L m
 gens:cY s.gens s'.gens
 os:s'.os=s.os
 drawn:s'.drawn=s.drawn
 live:∀b o,s.heap.get? b=some o->∃o',s'.heap.get? b=some o'
 solid:∀b o,dh o->s.heap.get? b=some o->s'.heap.get? b=some o
section
variable{g:Bool}{W:Wd}{X X':Addr->Prop}{C:Addr}{s s₁ s':ah}
theorem After.moves(a:After W X s s'):be W X C s s':=⟨a.inv,a.keep,λL m ø e=>a.ns L m e,a.gens,a.os,a.drawn,a.live,a.solid⟩
theorem be.weaken(m:be W X C s s')(hx:∀b o,s.heap.get? b=some o->¬X' b->¬X b):be W X' C s s':=
 ⟨m.inv,λb o k e=>m.keep b o (hx b o e k) e,m.ns,m.gens,m.os,m.drawn,m.live,m.solid⟩
theorem be.trans(m:be W X C s s₁)(a:be W X C s₁ s'):be W X C s s':=
 ⟨a.inv,λb o k e=>a.keep b o k (m.keep b o k e),λL f hL e=>a.ns L f hL (m.ns L f hL e),m.gens.trans a.gens,a.os.trans m.os,a.drawn.trans m.drawn,λb o e=>by obtain⟨o',e'⟩:=m.live b o e;exact a.live b o' e',λb o t e=>a.solid b o t (m.solid b o t e)⟩
theorem be.after(m:be W X C s s₁)(a:After W X s₁ s'):be W X C s s':=m.trans a.moves
theorem be.close(m:be W X' C s s')(hx:∀b o,s.heap.get? b=some o->¬X b->¬X' b)(hC:s.heap.get? C=none):After W X s s':=
 ⟨m.inv,λb o k e=>m.keep b o (hx b o e k) e,λL f e=>m.ns L f (λq=>by obtain⟨o,_,_,e',_⟩:=e;rw[q,hC]at e';cases e') e,m.gens,m.os,m.drawn,m.live,m.solid⟩
theorem be.chg(m:be W X C s s₁){B:Addr}{h':Heap}{tk:Nat}(I:Inv W s)(hB:s.heap.get? B=none)(ext:eP B s₁.heap h')(hns:B=C \/∀f,¬s₁.heap.Ns B f)(hX:∀q∈W.tabs,∃o,s.heap.get? q.2=some o):
  be W X C s {s₁ with heap:=h',toks:=tk}:=by
 have ne:∀b o,s.heap.get? b=some o->b≠B:=λb o e q=>by rw[q,hB]at e;exact al e
 refine⟨⟨λb o e=>ext b o (ne b o (I.stays b o e)) (m.inv.stays b o e),λq hq=> ?_,m.inv.gens⟩,λb o k e=>ext b o (ne b o e) (m.keep b o k e),λL f hL e=> ?_,m.gens,m.os,m.drawn,λb o e=> ?_,λb o t e=>ext b o (ne b o e) (m.solid b o t e)⟩
 ·refine ay (m.inv.tabs q hq) λps h1 h2=> ?_
  have n2:q.2≠B:=by obtain⟨o,e⟩:=hX q hq;exact ne _ _ e
  have n1:q.1≠B:=by
   refine ay (I.tabs q hq) λps' k1 ø=> ?_
   refine rM k1 λo ø ø ø ø ø ø ø ø ø e ø=> ?_
   exact ne _ _ e
  exact⟨ps,h1.extBut ext n1 n2,h2.extBut ext n1 n2⟩
 ·have e1:=m.ns L f hL e
  have hLB:L≠B:=by
   refine dc e λo ø ø e' ø=> ?_
   exact ne _ _ e'
  exact e1.at' λo e2=>ext L o hLB e2
 ·refine xE (m.live b o e) λo' e' => ?_
  exact⟨o',ext b o' (ne b o e) e'⟩
theorem Ready.move{A:aA}{l:List av}(R:Ready W X A l s)(m:be W X' C s s')(hC:s.heap.get? C=none)(up:∀b,X b->X' b)(down:∀b,X' b->X b \/(s.heap.get? b=none/\ ∃o,s'.heap.get? b=some o)):Ready W X' A l s' where
 inv:=m.inv
 frames:=R.frames
 guards:=R.guards
 handled:=R.handled
 below:=λenv he=>by
  refine gW (R.below env he) λk L f e1 e2 e3 e4=> ?_
  refine⟨k,L,f,e1,e2,m.ns L f (λq=> ?_) e3,up _ e4⟩
  refine dc e3 λo ø ø e' ø=> ?_
  rw[q,hC]at e';cases e'
 xtabs:=λq hq=>up _ (R.xtabs q hq)
 xbase:=λb o e hx=>by
  rcases down b hx with h|⟨h,_⟩
  ·exact R.xbase b o e h
  ·rw[R.inv.stays b o e]at h;exact lD h
 xlt:=λb hx=>by
  rcases down b hx with h|⟨_,h⟩
  ·refine xE (R.xlt b h) λo e=> ?_
   exact m.live b o e
  ·exact h
end
end
section
theorem yc{α:Type}{r:Res α}(h:b4 r≠ .stuck):∃a,r= .ok a/\ b4 r= .ok a:=by
 cases r with
 |ok a=>exact⟨a,rfl,rfl⟩
 |exc c=>exact absurd rfl h
 |stuck=>exact absurd rfl h
theorem nr{α β:Type}{r:Res α}{f:α->Res β}(h:(b4 r).bind f≠ .stuck):∃a,r= .ok a/\ b4 r= .ok a/\ (b4 r).bind f=f a:=by
 refine ay (yc (ft h)) λa h1 h2=> ?_
 exact⟨a,h1,h2,by rw[h2];rfl⟩
theorem yd{α:Type}{f:α->Res Bool}:∀{l r:List α},iu f l= .ok r->(∀v∈l,∃b,f v= .ok b)/\ r=l.filter λv=>match f v with| .ok b=>b|_=>false
 |[],r,h=>by obtain rfl:=de h;exact⟨λv hv=>absurd hv (by simp),rfl⟩
 |a::l,r,h=>by
  unfold iu at h
  cases h1:f a with
  |ok b=>
   rw[h1,eF]at h
   cases h2:iu f l with
   |ok bs=>
    rw[h2,eF]at h
    refine xA (yd h2) λk1 k2=> ?_
    refine⟨λv hv=> ?_,?_⟩
    ·refine ck (bR.mp hv) (λq=> ?_) (λq=> ?_)
     ·subst q;exact⟨b,h1⟩
     ·exact k1 v q
    ·rw[vX,h1]
     obtain rfl:=de h
     cases b<;>simp[k2]
   |exc c=>rw[h2]at h;exact ju h
   |stuck=>rw[h2]at h;exact iq h
  |exc c=>rw[h1]at h;exact ju h
  |stuck=>rw[h1]at h;exact iq h
theorem ye{α β:Type}{f:α->Res β}:∀{l:List α} {r:List β},fm f l= .ok r->(∀v∈l,∃b,f v= .ok b)/\ r=l.filterMap λv=>match f v with| .ok b=>some b|_=>none
 |[],r,h=>by obtain rfl:=de h;exact⟨λv hv=>absurd hv (by simp),rfl⟩
 |a::l,r,h=>by
  unfold fm at h
  cases h1:f a with
  |ok b=>
   rw[h1,eF]at h
   cases h2:fm f l with
   |ok bs=>
    rw[h2,eF]at h
    obtain rfl:=de h
    refine xA (ye h2) λk1 k2=> ?_
    refine⟨λv hv=> ?_,?_⟩
    ·refine ck (bR.mp hv) (λq=> ?_) (λq=> ?_)
     ·subst q;exact⟨b,h1⟩
     ·exact k1 v q
    ·rw[vY,h1]
     simp only
     rw[<-k2]
   |exc c=>rw[h2]at h;exact ju h
   |stuck=>rw[h2]at h;exact iq h
  |exc c=>rw[h1]at h;exact ju h
  |stuck=>rw[h1]at h;exact iq h
structure tF(E:Ev)(csc:Scope)(x:Str)(elt:ai)(ifs:List ai)(items:List PV)(g:PV->Option PV):Prop where
 plain:g7 csc=true
 loc:bQ csc x=true
 dot:(x !=aa ".0")=true
 each:∀v∈items,match g v with
  |none=>iv E csc x ifs v= .ok false
  |some y=>iv E csc x ifs v= .ok true/\ E.ev csc elt [(x,v)]= .ok y
theorem pD{E:Ev}{csc:Scope}{x:Str}{elt:ai}{ifs:List ai}{items:List PV}(h:cj E csc x elt ifs items≠ .stuck):
  ∃g,tF E csc x elt ifs items g/\ cj E csc x elt ifs items= .ok (items.filterMap g):=by
 unfold cj at h ⊢
 split at h
 case isFalse=>exact absurd rfl h
 rename_i hp
 rw[aI,aI]at hp
 rw[if_pos (by rw[hp.1.1,hp.1.2,hp.2];rfl)]
 refine bA (nr h) λvs h1 h2 h3=> ?_
 rw[h3]at h ⊢
 refine ay (yc h) λys h4 h5=> ?_
 rw[h5]
 refine xA (yd h1) λk1 k2=> ?_
 refine xA (ye h4) λk3 k4=> ?_
 refine⟨λv=>match iv E csc x ifs v with
  | .ok true=>(match E.ev csc elt [(x,v)]with| .ok y=>some y|_=>none)
  |_=>none,⟨hp.1.1,hp.1.2,hp.2,λv hv=> ?_⟩,?_⟩
 ·refine xE (k1 v hv) λb hb=> ?_
  rw[hb]
  cases b with
  |false=>rfl
  |true=>
   refine xE (k3 v (by rw[k2,Da,hb];exact⟨hv,rfl⟩)) λy hy=> ?_
   simp[hy]
 ·congr 1
  rw[k4,k2,List.filterMap_filter]
  congr 1
  funext v
  cases iv E csc x ifs v with
  |ok b=>cases b with
   |false=>simp
   |true=>simp;cases E.ev csc elt [(x,v)]<;>rfl
  |exc c=>simp
  |stuck=>simp
section
variable{g:Bool}{W:Wd}{X:Addr->Prop}{A:aA}{s:ah}{l:List av}{n:Nat}{sc:Scope}{env:av}{ρ:aj}{C:Calls}{E₀:Ev}
theorem kC{csc:Scope}(h:g7 csc=true):csc.kind= .function/\ csc.isCoroutine=false/\ (∀y∈csc.names,y.2≠ .cell)/\ (∀y∈csc.names,y.2≠ .free)/\ (∀y∈csc.names,y.2= .local->csc.names.lookup y.1=some .local):=by
 unfold g7 at h
 simp only[aI,ba,bne_iff_ne,gS,beq_iff_eq,lj]at h
 refine xA h λzn1 h3=> ?_
 refine xA zn1 λh1 h2=> ?_
 refine⟨h1,h2,λy hy=>(h3 y hy).1.1,λy hy=>(h3 y hy).1.2,λy hy e=> ?_⟩
 refine ck ((h3 y hy).2) (λq=> ?_) (λq=> ?_)
 ·exact absurd e q
 ·exact q
theorem tG{i:ai}(h:cQ i=true)(env:av)(x:ae):foldedSetIterable i env x=pure x:=by
 cases i<;>first|rfl|exact bV h
theorem FV{csc:Scope}{Cm:Addr}(K:jF g W sc env)(hp:g7 csc=true):jF false W csc (compEnv csc Cm env) where
 code:=λh=>vZ h
 scope:=(kC hp).1
 names:=λx k e ø ø=>e
 globals:=K.globals
 builtins:=K.builtins
 nocell:=(kC hp).2.2.1
theorem FW{csc:Scope}{x:Str}{v:ae}{p:PV}{X':Addr->Prop}{s:ah}{Cm:Addr}{m:Str->Option ae}(K:jF g W sc env)(hp:g7 csc=true)(hl:bQ csc x=true)(R:Ready W X' A l s)(hX:X' Cm)(hn:s.heap.Ns Cm m)(hv:m x=some v)(r:Rep W X' s.heap v p):
  Here false W X' A l s csc (compEnv csc Cm env) [(x,p)]:=by
 refine⟨R,FV K hp,⟨hX,m,hn,λy q e=> ?_⟩,λy q e=> ?_⟩
 ·rw[ca]at e
  cases h:y==x with
  |true=>rw[h]at e;obtain rfl:=aq e;rw[cG h];exact⟨v,hv,r⟩
  |false=>rw[h]at e;exact al e
 ·rw[ca]at e
  cases h:y==x with
  |true=>rw[cG h];exact cG hl
  |false=>rw[h]at e;exact al e
theorem yf(hE:aM g W n E₀){csc:Scope}{x:Str}{ifs:List ai}{p:PV}{b:Bool}{cenv:av}{X':Addr->Prop}{s:ah}(H:Here g W X' A l s csc cenv [(x,p)])(e:iv E₀ csc x ifs p= .ok b)(hd:A.depth+n<=900)(hu:A.units+10*n<=9000)
  {Q:Bool->ah->Prop} {E:ae->ah->Prop} (h:∀s',After W X' s s'->Q b s'):
  wpAny W.M A (forIn ifs true λc r=>if r=true then do let ok<-isTrue c cenv (eval c cenv);pure (ForInStep.yield ok)else pure (ForInStep.yield r)) Q E s:=by
 cases ifs with
 |nil=>obtain rfl:=de e;exact wpAny_tests_nil (h s (After.refl H.ready.inv))
 |cons t r=>
  cases r with
  |nil=>
   have e:E₀.tst csc t [(x,p)]= .ok b:=e
   refine wpAny_tests_one (hE.2 csc t X' A l s cenv _ H ((e)▸λq=>nomatch q) hd hu Q E ⟨λv q s' e1 a r=> ?_,λe' c s' e1 ø=> ?_⟩)
   ·rw[e]at e1;obtain rfl:=de e1;subst r;exact h s' a
   ·rw[e]at e1;exact D8 e1
  |cons=>exact iq e
end
end
section
section
variable{b₀:Bool}{W:Wd}{X:Addr->Prop}{A:aA}{s:ah}{l:List av}{n:Nat}{sc:Scope}{env:av}{ρ:aj}{C:Calls}{E₀ E₁:Ev}
theorem yg{α β:Type}(g:α->Option β){xs:List α}{i:Nat}{v:α}(h:xs[i]? =some v):(xs.take (i+1)).filterMap g=(xs.take i).filterMap g++(match g v with|some y=>[y]|none=>[]):=by
 rw[v0,h,List.filterMap_append]
 cases hg:g v<;>simp[hg]
noncomputable def Xc(X:Addr->Prop)(I D Cm:Addr):Addr->Prop:=λb=>X b \/b=I \/b=D \/b=Cm
theorem Xc.not{X:Addr->Prop}{h:Heap}{I D Cm b:Addr}{o:Obj}(hI:h.get? I=none)(hD:h.get? D=none)(hC:h.get? Cm=none)(e:h.get? b=some o)(nx:¬X b):¬Xc X I D Cm b:=λq=>by
 rcases q with q|rfl|rfl|rfl
 ·exact nx q
 ·exact al (hI.symm.trans e)
 ·exact al (hD.symm.trans e)
 ·exact al (hC.symm.trans e)
inductive yh(W:Wd)(X:Addr->Prop)(I D Cm:Addr)(St:Nat->Heap->Prop)(g:PV->Option PV)(items:List PV)(s:ah)(k:Nat)(s':ah):Prop
 |mk (i:Nat) (ys:Array ae) (m:Str->Option ae):k=items.length+1-i->i<=items.length->be W (Xc X I D Cm) Cm s s'->St i s'.heap->s'.heap.IsList D ys->s'.heap.Ns Cm m->a8 W (Xc X I D Cm) s'.heap ys.toList ((items.take i).filterMap g)->yh W X I D Cm St g items s k s'
theorem yi(hE:aM false W n E₁){csc:Scope}{x:Str}{px:ax}{elt iter:ai}{ifs:List ai}{p:ax}{items:List PV}{g:PV->Option PV}{s s₄:ah}{I D Cm:Addr}{fp:List Addr}{P:Nat->ae->Prop}{St:Nat->Heap->Prop}{h₁:Heap}
  (K:jF b₀ W sc env) (G:tF E₁ csc x elt ifs items g) (R:Ready W X A l s) (It:tE W X s.heap h₁ I fp P St items) (hd:A.depth+n<=900) (hu:A.units+10*n<=9000)
  (hI:s.heap.get? I=none) (hD:s.heap.get? D=none) (hC:s.heap.get? Cm=none) (hID:I≠D) (hIC:I≠Cm) (hDC:D≠Cm)
  (M₄:be W (Xc X I D Cm) Cm s s₄) (st:St 0 s₄.heap) (hl:s₄.heap.IsList D #[]) {m₀:Str->Option ae} (hn:s₄.heap.Ns Cm m₀) {Rr:Result->ah->Prop}
  (hR:∀s' ys,be W (Xc X I D Cm) Cm s s'->(∃m,s'.heap.Ns Cm m)->s'.heap.IsList D ys->a8 W (Xc X I D Cm) s'.heap ys.toList (items.filterMap g)->Rr (.ok .next) s'):
  codeAny W.M A (.compLoop (.ListComp elt [⟨.Name x px,iter,ifs,0⟩] csc p) 0 (.ref I) (.ref D) (compEnv csc Cm env)) Rr s₄:=by
 have hx:(compEnv csc Cm env).kindOf x=some .local:=cG G.loc
 have tabs:∀q∈W.tabs,∃o,s.heap.get? q.2=some o:=λq hq=>R.xlt _ (R.xtabs q hq)
 have few:=It.few
 have hsz:=f6
 refine codeAny_compLoop_tests
  (yh W X I D Cm St g items s) ?_ (items.length+1) ⟨0, #[],_,rfl,dZ _,M₄,st,hl,hn, .nil⟩
 intro k s' zn1
 obtain⟨i,ys,m,rfl,hi,M,st',hl',hn',rys⟩:=zn1
 have Wk:=It.walks A R.handled
 by_cases hlt:i<items.length
 ·refine Wk.item i s' _ _ hlt st' λv h₁ tk1 hP st₁ k₁=> ?_
  refine ay (It.vals i v hP) λpv hpv rpv=> ?_
  have ext1:eP I s'.heap h₁:=gD k₁
  refine bA (It.own _ _ st') λoI eI sI nI=> ?_
  refine bA (It.own _ _ st₁) λoI1 eI1 sI1 nI1=> ?_
  have M₁:be W (Xc X I D Cm) Cm s {s' with heap:=h₁,toks:=tk1}:=M.chg R.inv hI ext1 (.inr nI) tabs
  have hn1:h₁.Ns Cm m:=hn'.at' λo e=>ext1 Cm o (cH hIC) e
  have hl₁:h₁.IsList D ys:=hl'.extBut ext1 (cH hID)
  refine kc (lm hx hn1 (λh₂ hn2 hs₂=> ?_) (by show(csc.kind== .class||(csc.kind== .module&&_))=false;rw[(kC G.plain).1];rfl))
  have ext2:eP Cm h₁ h₂:=hs₂.extBut
  have M₂:be W (Xc X I D Cm) Cm s {s' with heap:=h₂,toks:=tk1+1}:=M₁.chg (s₁:={s' with heap:=h₁,toks:=tk1}) R.inv hC ext2 (.inl rfl) tabs
  have st₂:St (i+1) h₂:=Wk.frame _ _ _ st₁ λb hb o e=>ext2 b o (λq=>by
   rcases It.fps b hb with h|⟨o',h,_,_⟩
   ·exact hIC (h▸q)
   ·rw[q,hC]at h;exact al h) e
  have hl₂:h₂.IsList D ys:=hl₁.extBut ext2 hDC
  have rep2:Rep W (Xc X I D Cm) h₂ v pv:=rpv.mono (λb o nx e=>M₂.keep b o (Xc.not hI hD hC e nx) e) λb o e nx=>Xc.not hI hD hC e nx
  have rys2:a8 W (Xc X I D Cm) h₂ ys.toList ((items.take i).filterMap g):=rys.mono (λb o nx e=>ext2 b o (λq=>nx (.inr (.inr (.inr q)))) (ext1 b o (λq=>nx (.inr (.inl q))) e)) λø ø ø nx=>nx
  refine bA (It.own _ _ st₂) λoI2 eI2 sI2 nI2=> ?_
  have R2:Ready W (Xc X I D Cm) A l {s' with heap:=h₂,toks:=tk1+1}:=R.move M₂ hC (λb hb=> .inl hb) λb hb=>by
   rcases hb with q|q|q|q
   ·exact .inl q
   ·subst q;exact .inr ⟨hI,_,eI2⟩
   ·subst q
    obtain⟨o,e,_⟩:=hl₂
    exact .inr ⟨hD,_,e⟩
   ·subst q
    obtain⟨o,_,_,e,_⟩:=hn2
    exact .inr ⟨hC,_,e⟩
  have H₂:=FW (x:=x) K G.plain G.loc R2 (.inr (.inr (.inr rfl))) hn2 (by simp) rep2
  have hmem:pv∈items:=Db hpv
  have each:=G.each pv hmem
  have next:∀s₃,After W (Xc X I D Cm) {s' with heap:=h₂,toks:=tk1+1} s₃->St (i+1) s₃.heap/\ s₃.heap.IsList D ys:=λs₃ a₃=>by
   refine⟨Wk.frame _ _ _ st₂ λb hb o e=> ?_,?_⟩
   ·rcases It.fps b hb with h|⟨o',h,nx,_⟩
    ·subst h;rw[eI2]at e;obtain rfl:=aq e;exact a₃.solid _ _ sI2 eI2
    ·exact a₃.keep b o (Xc.not hI hD hC h nx) e
   ·refine oV hl₂ λo e c k r=> ?_
    exact⟨o,a₃.solid _ _ ⟨⟨_,by simp[fq],c⟩,by rw[r];intro ø ø q;cases q⟩ e,c,k,r⟩
  cases hg:g pv with
  |none=>
   rw[hg]at each
   refine yf hE H₂ each hd hu λs₃ a₃=> ?_
   refine xA (next s₃ a₃) λst₃ hl3=> ?_
   simp only[oN,if_false]
   refine⟨items.length+1-(i+1),oW ‹_›,i+1,ys,_,rfl,hlt,M₂.after a₃,st₃,hl3,a₃.ns _ _ hn2,?_⟩
   rw[yg g hpv,hg,j9]
   exact a₃.reps rys2
  |some y=>
   rw[hg]at each
   refine yf hE H₂ each.1 hd hu λs₃ a₃=> ?_
   simp only[if_true]
   have H₃:=H₂.after a₃
   refine hE.1 csc elt _ A l s₃ _ _ H₃ ((each.2)▸λq=>nomatch q) hd hu _ _ ⟨λvy q s4' e1 a₄ r4=> ?_,λe' c s4' e1 ø=>by rw[each.2]at e1;cases e1⟩
   rw[each.2]at e1
   obtain rfl:=de e1
   have a34:=a₃.trans a₄
   refine xA (next s4' a34) λst₄ hl4=> ?_
   have hys:ys.size<=sizeLine:=by
    have r9:=rys.length
    have h9:((items.take i).filterMap g).length<=(items.take i).length:=List.length_filterMap_le ..
    rw[jj]at h9
    have:ys.toList.length=ys.size:=oC
    exact ao (dq (this.symm.trans r9)) (ao h9 (ao (vN _ _) (ao few hsz)))
   refine wpAny_list_append (hsz:=hys) hl4 λh₅ hl5 hs5=> ?_
   have ext5:eP D s4'.heap h₅:=hs5.extBut
   have M₅:be W (Xc X I D Cm) Cm s {s4' with heap:=h₅}:=(M₂.after a34).chg (tk:=s4'.toks) R.inv hD ext5 (.inr λf=>by
    refine oV hl4 λo e ø ø d=> ?_
    exact kB e (by rw[d];intro ø ø q;cases q) f) tabs
   refine⟨items.length+1-(i+1),oW ‹_›,i+1,ys.push vy,_,rfl,hlt,M₅,?_,hl5,(a34.ns _ _ hn2).at' λo e=>ext5 Cm o (cH hDC) e,?_⟩
   ·exact Wk.frame _ _ _ st₄ λb hb o e=>ext5 b o (λq=>by
     rcases It.fps b hb with h|⟨o',h,_,_⟩
     ·exact hID (h▸q)
     ·rw[q,hD]at h;exact al h) e
   ·rw[yg g hpv,hg,Array.toList_push]
    have up:∀b o,¬Xc X I D Cm b->s4'.heap.get? b=some o->h₅.get? b=some o:=λb o nx e=>ext5 b o (λq=>nx (.inr (.inr (.inl q)))) e
    exact((a34.reps rys2).mono up λø ø ø nx=>nx).append (.cons (r4.mono up λø ø ø nx=>nx) .nil)
 ·have:i=items.length:=mP ‹_› ‹_›
  subst this
  refine Wk.done s' _ _ st' λh₁ tk1 k₁=> ?_
  have ext1:eP I s'.heap h₁:=gD k₁
  refine bA (It.own _ _ st') λoI eI sI nI=> ?_
  refine hR {s' with heap:=h₁,toks:=tk1} ys (M.chg R.inv hI ext1 (.inr nI) tabs) ⟨m,hn'.at' λo e=>ext1 Cm o (cH hIC) e⟩ (hl'.extBut ext1 (cH hID)) ?_
  rw[C0 (bO _)]at rys
  exact rys.mono (λb o nx e=>ext1 b o (λq=>nx (.inr (.inl q))) e) λø ø ø nx=>nx
theorem yj{elt iter target:ai}{ifs:List ai}{scope:Scope}{p:ax}{it acc:ae}{env:av}{Rr:Result->ah->Prop}
  (h0:codeAny W.M A (.compLoop (.ListComp elt [⟨target,iter,ifs,0⟩] scope p) 0 it acc env) Rr s) (hs:∀(Q E:ae->ah->Prop),Q it s->wpAny W.M A (pyIter it) Q E s):
  codeAny W.M A (.compStart (.ListComp elt [⟨target,iter,ifs,0⟩] scope p) 0 it acc env) Rr s:=
 codeAny_compStart_list h0 (hs _ _ h0)
theorem FX(hE:aM b₀ W n E₀)(hE1:aM false W n E₁)(H:Here b₀ W X A l s sc env ρ){elt iter:ai}{x:Str}{px p:ax}{ifs:List ai}{csc:Scope}(hset:cQ iter=true):
  SC W X l (RV W X) n A (eval (.ListComp elt [⟨.Name x px,iter,ifs,0⟩] csc p) env) s ((b4 (E₀.ev sc iter ρ)).bind λv=>(aE (bP v)).bind λitems=>(cj E₁ csc x elt ifs items).bind λvs=> .ok (.list vs)):=λhne hd hu Q E F=>by
 refine bA (nr hne) λpv h1 h2 h3=> ?_
 rw[h3]at hne F
 refine xE (er (ft hne)) λitems hit=> ?_
 rw[hit,mQ,eF]at hne F
 refine ay (pD (ft hne)) λg G hg=> ?_
 rw[hg,eF]at F
 refine kj (kC G.plain) λf1 f2 f3 f4 f5=> ?_
 refine wpAny_ListComp f4 f1 f5 (hE.1 sc iter X A l s env ρ H ((h1)▸λq=>nomatch q) hd hu _ _ ⟨λv q s₁ e1 a₁ r₁=> ?_,λe' c s' e1 ø=>by rw[h1]at e1;cases e1⟩) (tG hset env)
 rw[h1]at e1
 obtain rfl:=de e1
 have H₁:=H.after a₁
 refine pC hit r₁ λo fp P St so It=> ?_
 refine Dc ?_ (by show 0<=sizeLine;exact bz (by rfl))
 refine Dd f3 (by intro y hy;simp at hy) (λh₄ hns4 hsb4=> ?_) f1
 dsimp only at hns4 hsb4 ⊢
 generalize hH1:s₁.heap.push o=H1 at It hns4 hsb4 ⊢
 have z1:H1.objs.size=s₁.heap.objs.size+1:=by rw[<-hH1,jn]
 generalize hH2:H1.push {cls:= .type "list",data:= .seq ([]:List ae).toArray}=H2 at hns4 hsb4 ⊢
 have z2:H2.objs.size=s₁.heap.objs.size+2:=by rw[<-hH2,jn,z1]
 have ne2:∀b:Nat,b<s₁.heap.objs.size->b≠H2.objs.size:=λb hb=>wH ‹_› ‹_›
 have ne3:∀b:Nat,b<H1.objs.size->b≠H2.objs.size:=λb hb=>wJ z1 z2 hb
 have n12:∀a b c:Nat,b=a+1->c=a+2->a≠b/\ a≠c/\ b≠c:=λa b c h1 h2=>r7 ‹_› ‹_›
 refine bL (n12 _ _ _ z1 z2) λd1 d2 d3=> ?_
 have nI:s₁.heap.get? s₁.heap.objs.size=none:=dP (bO _)
 have nD:s₁.heap.get? H1.objs.size=none:=dP (lC ‹_›)
 have nC:s₁.heap.get? H2.objs.size=none:=dP (lC ‹_›)
 have old:∀b o,s₁.heap.get? b=some o->h₄.get? b=some o:=λb o e=>
  hsb4.extBut b o (ne2 b (eA e)) (bX _ (hH2▸bX _ (hH1▸bX _ e)))
 have a₄:After W X s₁ {s₁ with heap:=h₄,toks:=s₁.toks+([]:List (Str×ae)).length}:=After.of_keeps H₁.ready.inv old
 have M₄:be W (λb=>X b \/b=s₁.heap.objs.size \/b=H1.objs.size \/b=H2.objs.size) H2.objs.size s₁ {s₁ with heap:=h₄,toks:=s₁.toks+([]:List (Str×ae)).length}:=
  (a₄.moves (C:=H2.objs.size)).weaken λb o e nx q=>nx (.inl q)
 have kI:∀b o',H1.get? b=some o'->h₄.get? b=some o':=λb o' e=>hsb4.extBut b o' (ne3 b (eA e)) (bX _ (hH2▸bX _ e))
 have st₄:St 0 h₄:=(It.walks A H₁.ready.handled).frame _ _ _ It.start λb ø o e=>kI b o e
 have hl4:h₄.IsList H1.objs.size #[]:=⟨_,hsb4.extBut _ _ d3 (bX _ (hH2▸ee _ rfl)),rfl,_,rfl⟩
 have hn4:h₄.Ns H2.objs.size _:=hns4
 refine yj (yi (s:=s₁) hE1 H.envk G H₁.ready It hd hu nI nD nC d1 d2 d3 M₄ st₄ hl4 hn4 λs' ys M' hn' hl' rys=> ?_) λQ E hq=>(It.walks A H₁.ready.handled).self 0 _ Q E st₄ hq
 refine xE hn' λm' hm' => ?_
 refine⟨m',hm',λh' hsb' => ?_⟩
 have tabs:∀q∈W.tabs,∃o,s₁.heap.get? q.2=some o:=λq hq=>H₁.ready.xlt _ (H₁.ready.xtabs q hq)
 have M'':be W (λb=>X b \/b=s₁.heap.objs.size \/b=H1.objs.size \/b=H2.objs.size) H2.objs.size s₁ {s' with heap:=h'}:=M'.chg (tk:=s'.toks) H₁.ready.inv nC hsb'.extBut (.inl rfl) tabs
 have af:After W X s₁ {s' with heap:=h'}:=M''.close (λb o e nx q=>by
  rcases q with q|q|q|q
  ·exact nx q
  ·rw[q,nI]at e;exact al e
  ·rw[q,nD]at e;exact al e
  ·rw[q,nC]at e;exact al e) nC
 refine F.1 _ _ _ rfl (a₁.trans af) ?_
 refine oV (hl'.extBut hsb'.extBut d3) λoD eD cD kD dD=> ?_
 refine .list eD cD dD (λhx=> ?_) ?_
 ·refine xE (H₁.ready.xlt _ hx) λo e=> ?_
  rw[nD]at e;exact al e
 ·exact rys.mono (λb o nx e=>hsb'.extBut b o (λq=>nx (.inr (.inr (.inr q)))) e) λb o e nx q=>nx (.inl q)
end
end
section
section
variable{g:Bool}{W:Wd}{X:Addr->Prop}{A:aA}{s:ah}{l:List av}{n:Nat}{sc:Scope}{env:av}{ρ:aj}{C:Calls}{E₀ E₁:Ev}
noncomputable def fj(acc:List Nat)(vs:List PV):Res PV:=match cO vs with
 |some ws=> .ok (.str (acc++ws.flatten))
 |none=> .stuck
theorem FY(acc y:List Nat)(vs:List PV):fj acc (.str y::vs)=fj (acc++y) vs:=by
 unfold fj
 show _=_
 rw[show cO (.str y::vs)=(cO vs).map (y:: ·)from rfl]
 cases cO vs with
 |none=>rfl
 |some ws=>simp
theorem tH{y:List Nat}(h:eS (.str y)≠ .stuck):eS (.str y)= .ok (.str y)/\ y.length<=fY:=by
 by_cases hl:y.length<=fY
 ·exact⟨if_pos hl,hl⟩
 ·exact absurd (if_neg hl) h
theorem tI{i:Int}(h:eS (.int i)≠ .stuck):eS (.int i)= .ok (.str (ej i))/\ small i=true/\ (ej i).length<=fY:=by
 by_cases hl:(small i&&decide ((ej i).length<=fY))=true
 ·exact⟨if_pos hl,(ei hl).1,of_decide_eq_true (ei hl).2⟩
 ·exact absurd (if_neg hl) h
theorem yk{v:PV}(h:eS v≠ .stuck):∃y,eS v= .ok (.str y)/\ y.length<=fY:=by
 cases v with
 |str y=>exact⟨y,tH h⟩
 |int i=>exact⟨_,tI h|>.1,tI h|>.2.2⟩
 |_=>exact absurd rfl h
theorem yl{ev:ai->aj->Res PV}{p:ai}{ρ:aj}(h:gG ev p ρ≠ .stuck):(∃e q,p= .FormattedValue e (-1) none q/\ gG ev p ρ=(ev e ρ).bind eS) \/∃x k q,p= .Constant (.str x) k q/\ gG ev p ρ=eS (.str (an x)):=by
 cases p with
 |FormattedValue e c f q=>
  by_cases hc:c= -1/\ f.isNone=true
  ·obtain⟨rfl,hf⟩:=hc
   cases f with
   |none=>exact .inl ⟨e,q,rfl,rfl⟩
   |some _=>exact bV hf
  ·exact absurd (if_neg hc) h
 |Constant c k q=>
  cases hc:mT c with
  |none=>
   have h:(match mT c with|some x=>eS (.str (an x))|none=> .stuck)≠ .stuck:=h
   rw[hc]at h;exact absurd rfl h
  |some x=>
   obtain rfl:=wS hc
   exact .inr ⟨x,k,q,rfl,rfl⟩
 |_=>exact absurd rfl h
theorem FZ(hE:aM g W n E₀)(H:Here g W X A l s sc env ρ)(p:ai):SC W X l (RV W X) n A (eval p env) s (gG (E₀.ev sc) p ρ):=λhne hd hu Q E F=>by
 have hsz:=f6
 have ht:=gn
 rcases yl hne with ⟨e,pos,rfl,e0⟩|⟨x,k,pos,rfl,e0⟩
 ·rw[e0]at hne F
  refine wpAny_FormattedValue_plain ((hE.1 sc e X A l s env ρ H).step hne hd hu F λv q s₁ ø a1 r1 ne1 F1=> ?_)
  refine ay (yk ne1) λy hy hl=> ?_
  have hp:fY=60000:=rfl
  cases r1 with
  |str x t=>
   refine xA (tH ne1) λk1 k2=> ?_
   rw[k1]at F1
   rw[bY]at k2
   exact wpAny_formatField_str (F1.1 _ _ _ rfl (After.refl a1.inv) (.str x t)) (F1.1 _ _ _ rfl (After.tok a1.inv) (.str x _)) (aV ‹_› (by rfl))
  |int i t=>
   refine bL (tI ne1) λk1 k2 ø=> ?_
   rw[k1]at F1
   exact wpAny_formatField_int (tu k2) (F1.1 _ _ _ rfl (After.tok a1.inv) (.str _ _))
  |_=>exact absurd rfl ne1
 ·rw[e0]at hne F
  refine xA (tH hne) λk1 k2=> ?_
  rw[k1]at F
  exact kb (F.1 _ _ _ rfl (After.tok H.ready.inv) (.str x _))
theorem Ga{p:ai}{v:PV}(h:gG (E₀.ev sc) p ρ= .ok v):∃y,v= .str y/\ y.length<=fY:=by
 have key:∀q,eS q= .ok v->∃y,v= .str y/\ y.length<=fY:=λq hq=>by
  refine ay (yk (v:=q) (by rw[hq];exact λe=>nomatch e)) λy h1 h2=> ?_
  rw[hq]at h1;obtain rfl:=de h1
  exact⟨y,rfl,h2⟩
 rcases yl (by rw[h];exact λe=>nomatch e)with ⟨e,pos,rfl,e0⟩|⟨x,k,pos,rfl,e0⟩
 ·rw[e0]at h
  cases q:E₀.ev sc e ρ with
  |ok w=>rw[q]at h;exact key w h
  |exc c=>rw[q]at h;exact ju h
  |stuck=>rw[q]at h;exact iq h
 ·exact key _ (e0.symm.trans h)
theorem ym(hE:aM g W n E₀)(hd:A.depth+n<=900)(hu:A.units+10*n<=9000):∀(parts:List ai) (s:ah) (acc:Str),Here g W X A l s sc env ρ->acc.length+fY*parts.length<=aX->
  ((bK (gG (E₀.ev sc)) parts ρ).bind (fj (an acc)))≠ .stuck->∀(Q E:ae->ah->Prop),cK W X l (RV W X) s ((bK (gG (E₀.ev sc)) parts ρ).bind (fj (an acc))) Q E->
  Joins W.M A E (evalEach parts env) acc (λout s₁=>out.length<=sizeLine/\ Q (.str out s₁.toks) {s₁ with toks:=s₁.toks+1}) s
 |[],s,acc,H,hl,hne,Q,E,F=>by
  have hsz:=f6
  refine⟨ao ‹_› ‹_›,F.1 _ _ _ rfl (After.tok H.ready.inv) ?_⟩
  rw[List.flatten_nil,j9];exact .str acc _
 |p::r,s,acc,H,hl,hne,Q,E,F=>by
  have hsz:=f6
  unfold bK at hne F
  rw[Res.bind_assoc]at hne F
  refine(FZ hE H p).step hne hd hu F λv q s₁ e1 a1 r1 ne1 F1=> ?_
  refine ay (Ga e1) λy zq1 hy=> ?_;subst zq1
  refine r1.strE λx t zq2 zq3=> ?_;subst zq2 zq3
  rw[Res.bind_assoc]at ne1 F1
  have e:(λvs=>(Res.ok (PV.str (an x)::vs)).bind (fj (an acc)))=fj (an (acc++x)):=by
   funext vs
   rw[eF,FY,iX]
  rw[e]at ne1 F1
  rw[bY]at hy
  have hlen:(acc++x).length=acc.length+x.length:=Str.length_append _ _
  rw[gj,Nat.mul_add,Nat.mul_one]at hl
  exact⟨x,t,rfl,ao (D5 hlen hy hl) hsz,ym hE hd hu r s₁ (acc++x) (H.after a1) (wK hlen hy hl) ne1 Q E F1⟩
theorem Gb(hE:aM g W n E₀)(H:Here g W X A l s sc env ρ){parts:List ai}{p:ax}(h2:2<=parts.length)(h16:parts.length<=16):
  SC W X l (RV W X) n A (eval (.JoinedStr parts p) env) s ((bK (gG (E₀.ev sc)) parts ρ).bind λvs=>match cO vs with
    |some ws=> .ok (.str ws.flatten)
    |none=> .stuck):=λhne hd hu Q E F=>by
 have ht:=gn
 have hp:fY=60000:=rfl
 have e:(λvs=>(match cO vs with
    |some ws=> .ok (.str ws.flatten)
    |none=> .stuck:Res PV))=fj (an Str.empty):=by
  funext vs
  unfold fj
  cases cO vs<;>rfl
 rw[e]at hne F
 match parts,h2 with
 |a::b::r,_=>
  refine wpAny_JoinedStr (ym hE hd hu _ s Str.empty H ?_ hne Q E F)
  have:Str.empty.length=0:=rfl
  rw[hp]
  exact ao (dq (fK _)) (ao (lf 60000 h16) (by decide+kernel))
end
end
section
structure pF(W:Wd)(n:Nat)(E₀ E₁:Ev):Prop where
 any:∀X A l s sc env ρ,Here true W X A l s sc env ρ->∀f p elt x px iter gsc gp pos,f=aa "any" ->cf sc f=true->eG gsc iter=true->
  SC W X l (RV W X) n A (eval (.Call (.Name f p) [.GeneratorExp elt [⟨.Name x px,iter,[],0⟩] gsc gp] [] pos) env) s
   ((b4 (E₀.ev sc iter ρ)).bind λv=>(aE (bP v)).bind λitems=>(cj E₁ gsc x elt [] items).bind λvs=>(aE (iS vs)).bind λbs=> .ok (.bool (bs.any id)))
 join:∀X A l s sc env ρ,Here true W X A l s sc env ρ->∀(y:Str) (t:bE) elt x px iter gsc gp pos pl Q E,eG gsc iter=true->A.depth+n<=900->A.units+10*n<=9000->
  ((b4 (E₀.ev sc iter ρ)).bind λv=>(aE (bP v)).bind λitems=>(cj E₁ gsc x elt [] items).bind λvs=>aE (ci (aa "join") (an y) [.list vs]))≠ .stuck->
  cK W X l (RV W X) s ((b4 (E₀.ev sc iter ρ)).bind λv=>(aE (bP v)).bind λitems=>(cj E₁ gsc x elt [] items).bind λvs=>aE (ci (aa "join") (an y) [.list vs])) Q E->
  wpAny W.M A (getMethod (.str y t) (aa "join") pl) (λp s₂=>wpAny W.M A (callWith pos p.1 p.2 (et env [.GeneratorExp elt [⟨.Name x px,iter,[],0⟩] gsc gp]) []) Q E s₂) E s
section
variable{g:Bool}{W:Wd}{X:Addr->Prop}{A:aA}{s:ah}{l:List av}{n:Nat}{sc:Scope}{env:av}{ρ:aj}{C:Calls}{E₀ E₁:Ev}
theorem eu{t:Sem ae}:SC W X l (RV W X) n A t s Res.stuck:=λh=>absurd rfl h
theorem gq{x y:Str}(h:¬x=y):(x==y)=false:=by
 cases q:x==y with
 |false=>rfl
 |true=>exact absurd (cG q) h
theorem Gc(O:aZ W)(hC:bu W n C)(H:Here g W X A l s sc env ρ)(x:Str)(p:ax):SC W X l (RV W X) n A (eval (.Name x p) env) s (sH C sc x ρ):=by
 unfold sH
 split
 ·exact eu
 ·rename_i hd
  cases hv:ρ.lookup x with
  |some v=>exact Fw H hv (gq hd)
  |none=>
   show SC _ _ _ _ _ _ _ _ (if cf sc x=true then aE (C.glob x)else .stuck)
   split
   ·rename_i hgl
    cases hq:C.glob x with
    |none=>exact eu
    |some v=>
     refine dR (hC.glob x v hq) λy t h1 h2=> ?_
     subst h2
     exact λhne ø ø Q E F=>pu O H (iY H hgl) (gq hd) h1 (F.1 _ _ _ rfl (After.refl H.ready.inv) (.str y t))
   ·exact eu
theorem Gd(H:Here g W X A l s sc env ρ)(x:ai)(p:ax):SC W X l (RV W X) n A (eval (.UnaryOp .USub x p) env) s (sJ x):=by
 unfold sJ
 cases h:(mS x).bind sv with
 |none=>exact eu
 |some i=>
  refine bl h λc hc h2=> ?_
  refine dw (sm hc) λk q e=> ?_
  rw[e,Ed h2]
  exact λhne ø ø Q E F=>vW (d0 (De (F.1 _ _ _ rfl (After.of_keeps (h':=s.heap) (tk:=s.toks+1+1) H.ready.inv λø ø e=>e) (.int _ _))))
theorem Ge(hE:aM g W n E₀)(H:Here g W X A l s sc env ρ)(v i:ai)(p:ax):SC W X l (RV W X) n A (eval (.Subscript v i p) env) s (sK E₀ sc v i ρ):=by
 unfold sK
 cases h:su i with
 |none=>exact FL hE H λa b c d q=>by rw[q]at h;exact lD h
 |some q=>
  obtain⟨lo,up,st⟩:=q
  refine xE (Ec h) λp' e=> ?_
  rw[e]
  cases st with
  |none=>exact FK hE H
  |some _=>exact eu
theorem yn(O:aZ W)(hE:aM g W n E₀)(hC:bu W n C)(H:Here g W X A l s sc env ρ){f:Str}{p pos:ax}(hgl:cf sc f=true)(hdb:(f==("__debug__" :Str))=false) (as:List ai):SC W X l (RV W X) n A (eval (.Call (.Name f p) as [] pos) env) s (ku C E₀ sc f as ρ):=by
 unfold ku
 split
 ·rename_i h
  rw[aI]at h
  exact FP O hE hC H hgl hdb h.1 h.2
 ·exact eu
theorem Gf{as:List ai}{q:ai×Str}(h:o8 as=some q):∃p,as=[q.1, .Name q.2 p]:=by
 refine bl h λc hc h2=> ?_
 refine eR h2 λx hx h3=> ?_
 refine xE (iO hx) λp e=> ?_
 subst h3
 exact⟨p,by rw[oZ hc,e]⟩
theorem Gg(O:aZ W)(hE:aM g W n E₀)(hC:bu W n C)(H:Here g W X A l s sc env ρ){f:Str}{p pos:ax}(hgl:cf sc f=true)(hdb:(f==("__debug__" :Str))=false) (as:List ai):SC W X l (RV W X) n A (eval (.Call (.Name f p) as [] pos) env) s (mX C E₀ sc f as ρ):=by
 unfold mX
 cases h:o8 as with
 |none=>exact yn O hE hC H hgl hdb as
 |some q=>
  show SC _ _ _ _ _ _ _ _ (if f=aa "isinstance" then(if(cf sc q.2&&(ρ.lookup q.2).isNone&&bv [q.1])=true then(E₀.ev sc q.1 ρ).bind λv=>(aE (dK v q.2)).bind λb=> .ok (.bool b)else .stuck)else ku C E₀ sc f as ρ)
  split
  ·rename_i hf
   split
   ·rename_i hh
    rw[aI,aI]at hh
    refine xE (Gf h) λp' zq1=> ?_;subst zq1
    exact FQ O hE H hf hgl hh.2 hh.1.1
   ·exact eu
  ·exact yn O hE hC H hgl hdb as
theorem yo{as:List ai}{q:ai×Str×ai×Scope}(h:kt as=some q):∃px gp,as=[.GeneratorExp q.1 [⟨.Name q.2.1 px,q.2.2.1,[],0⟩] q.2.2.2 gp]:=by
 refine bl h λe he h2=> ?_
 refine bl h2 λc hc h3=> ?_
 refine bl h3 λcp hcp h4=> ?_
 refine bl h4 λx hx h5=> ?_
 refine xA (ek h5) λhi h6=> ?_
 refine xE (Ea hc) λgp e1=> ?_
 refine xE (iO hx) λpx e2=> ?_
 obtain⟨t,it,ifs,a⟩:=cp
 subst h6
 exact⟨px,gp,by rw[gX he,e1,gX hcp,<-hi.2,<-gR.mp hi.1,<-e2]⟩
theorem Gh(O:aZ W)(hE:aM g W n E₀)(hC:bu W n C)(hg:g=true->pF W n E₀ E₁)(H:Here g W X A l s sc env ρ)(f:Str)(p pos:ax)(as:List ai):SC W X l (RV W X) n A (eval (.Call (.Name f p) as [] pos) env) s (jx C g E₀ E₁ sc f as ρ):=by
 unfold jx
 split
 ·exact eu
 ·rename_i hc
  simp only[gS,not_or,lj,mE,Bool.not_eq_false,decide_eq_true_eq]at hc
  refine xA hc λzn1 hdb=> ?_
  refine xA zn1 λhgl hloc=> ?_
  cases h:kt as with
  |none=>exact Gg O hE hC H hgl (gq hdb) as
  |some q=>
   show SC _ _ _ _ _ _ _ _ (if(f=aa "any" &&g&&eG q.2.2.2 q.2.2.1)=true then(b4 (E₀.ev sc q.2.2.1 ρ)).bind λv=>(aE (bP v)).bind λitems=>(cj E₁ q.2.2.2 q.2.1 q.1 [] items).bind λvs=>(aE (iS vs)).bind λbs=> .ok (PV.bool (bs.any id))else .stuck)
   split
   ·rename_i hh
    simp only[aI,decide_eq_true_eq]at hh
    refine dw (yo h) λpx gp zq2=> ?_;subst zq2
    exact(hg hh.1.2).any X A l s sc env ρ (hh.1.2▸H) f p q.1 q.2.1 px q.2.2.1 q.2.2.2 gp pos hh.1.1 hgl hh.2
   ·exact eu
theorem Gi(hE:aM g W n E₀)(hC:bu W n C)(hg:g=true->pF W n E₀ E₁)(H:Here g W X A l s sc env ρ)(o:ai)(m:Str)(apos pos:ax)(args:List ai):SC W X l (RV W X) n A (eval (.Call (.Attribute o m apos) args [] pos) env) s (jy C g E₀ E₁ sc o m apos args pos ρ):=by
 unfold jy
 split
 ·exact eu
 ·rename_i hb
  simp only[lj,Bool.not_eq_false,aI,decide_eq_true_eq]at hb
  obtain⟨zn2,hb4⟩:=hb
  obtain⟨zn3,hb3⟩:=zn2
  obtain⟨hb1,hb2⟩:=zn3
  intro hne hd hu Q E F
  refine pB hb1 hb3 hb4 hb2 ((hE.1 sc o X A l s env ρ H).step hne hd hu F λvo x s₁ ø a1 r1 ne1 F1=>λpl=> ?_)
  cases r1 with
  |str y t=>
   have ne2:lI g E₀ E₁ sc m (an y) args ρ≠ .stuck:=ne1
   have F2:cK W X l (RV W X) s₁ (lI g E₀ E₁ sc m (an y) args ρ) Q E:=F1
   clear ne1 F1
   unfold lI at ne2 F2
   cases h:kt args with
   |none=>
    rw[h]at ne2 F2
    have ne3:(if iW.contains m=true then(bK (E₀.ev sc) args ρ).bind λvs=>aE (ci m (an y) vs)else .stuck)≠ .stuck:=ne2
    have F3:cK W X l (RV W X) s₁ (if iW.contains m=true then(bK (E₀.ev sc) args ρ).bind λvs=>aE (ci m (an y) vs)else .stuck) Q E:=F2
    clear ne2 F2
    by_cases hm:iW.contains m=true
    ·rw[if_pos hm]at ne3 F3
     exact FR hE hm (H.after a1) ne3 hd hu F3
    ·exact absurd (if_neg hm) ne3
   |some q=>
    rw[h]at ne2 F2
    have ne3:(if(m=aa "join" &&g&&eG q.2.2.2 q.2.2.1)=true then(b4 (E₀.ev sc q.2.2.1 ρ)).bind λv=>(aE (bP v)).bind λitems=>(cj E₁ q.2.2.2 q.2.1 q.1 [] items).bind λvs=>aE (ci m (an y) [.list vs])else .stuck)≠ .stuck:=ne2
    have F3:cK W X l (RV W X) s₁ (if(m=aa "join" &&g&&eG q.2.2.2 q.2.2.1)=true then(b4 (E₀.ev sc q.2.2.1 ρ)).bind λv=>(aE (bP v)).bind λitems=>(cj E₁ q.2.2.2 q.2.1 q.1 [] items).bind λvs=>aE (ci m (an y) [.list vs])else .stuck) Q E:=F2
    clear ne2 F2
    by_cases hh:(m=aa "join" &&g&&eG q.2.2.2 q.2.2.1)=true
    ·rw[if_pos hh]at ne3 F3
     simp only[aI,decide_eq_true_eq]at hh
     obtain⟨zn4,h3⟩:=hh
     obtain⟨h1,h2⟩:=zn4
     subst h1
     refine dw (yo h) λpx gp zq2=> ?_;subst zq2
     exact(hg h2).join X A l s₁ sc env ρ (h2▸(H.after a1)) y t q.1 q.2.1 px q.2.2.1 q.2.2.2 gp pos pl Q E h3 hd hu ne3 F3
    ·exact absurd (if_neg hh) ne3
  | @inst x d _ es' k fs e1 e2 n1 n2 fl=>
   have r1':=Rep.inst (W:=W) (X:=X) e1 e2 n1 n2 fl
   have ne2:(if((fs.lookup m).isNone&&g8.contains m)=true then(bK (E₀.ev sc) args ρ).bind λvs=>C.meth _ m (.inst _ fs::vs)else .stuck)≠ .stuck:=ne1
   have F2:cK W X l (RV W X) s₁ (if((fs.lookup m).isNone&&g8.contains m)=true then(bK (E₀.ev sc) args ρ).bind λvs=>C.meth _ m (.inst _ fs::vs)else .stuck) Q E:=F1
   by_cases hm:((fs.lookup m).isNone&&g8.contains m)=true
   ·rw[if_pos hm]at ne2 F2
    rw[aI]at hm
    obtain⟨fv,hget,hcal,hk⟩:=hC.meth _ m hm.2
    refine hget A E s₁ x d es' k pl _ a1.inv e1 e2 ?_ ?_
    ·unfold shadowIn
     simp only
     rw[FT fl (by simpa using hm.1)];rfl
    refine hcal A E s₁ pos [.ref x] _ Q (nq args) (pA hE (H.after a1) ne2 hd hu F2 λvs xs s₂ a2 r2 ne3 F3=>⟨a2.inv,?_⟩)
    exact hk (.inst _ fs::xs) A l s₂ X (.ref x::vs) ((H.after a1).after a2).ready (.cons (a2.rep r1') r2) ne3 hd hu Q E F3
   ·exact absurd (if_neg hm) ne2
  |_=>exact(ne1 rfl).elim
theorem Gj(hE:aM g W n E₀)(hE1:aM false W n E₁)(H:Here g W X A l s sc env ρ)(elt:ai)(gs:List oo)(csc:Scope)(p:ax):SC W X l (RV W X) n A (eval (.ListComp elt gs csc p) env) s (mY E₀ E₁ sc elt gs csc ρ):=by
 unfold mY
 cases hg:fh gs with
 |none=>exact eu
 |some c=>
  obtain⟨t,iter,ifs,a⟩:=c
  show SC _ _ _ _ _ _ _ _ (match fR t with|none=> .stuck|some x=>sM E₀ E₁ sc elt csc ⟨t,iter,ifs,a⟩ x ρ)
  cases hx:fR t with
  |none=>exact eu
  |some x=>
   refine xE (iO hx) λpx e=> ?_
   rw[gX hg,e]
   by_cases ha:a=0
   ·subst ha
    cases hs:cQ iter with
    |false=>exact λhne=>absurd (by show(if(0:Int)=0 then(if(!cQ iter)=true then Res.stuck else _)else _)=_;rw[if_pos rfl,hs];rfl) hne
    |true=>
     have:=FX (csc:=csc) (elt:=elt) (x:=x) (px:=px) (ifs:=ifs) (p:=p) hE hE1 H hs
     show SC _ _ _ _ _ _ _ _ (if(0:Int)=0 then(if(!cQ iter)=true then Res.stuck else _)else _)
     rw[if_pos rfl,hs];exact this
   ·exact λhne=>absurd (if_neg ha) hne
theorem tJ{b:Bool}{t:Sem ae}{r:Res PV}(h:b=true->SC W X l (RV W X) n A t s r):SC W X l (RV W X) n A t s (if b=true then r else .stuck):=by
 cases b with
 |true=>exact h rfl
 |false=>exact eu
theorem yq(O:aZ W)(hE:aM g W n E₀)(hE1:aM false W n E₁)(hC:bu W n C)(hg:g=true->pF W n E₀ E₁)(H:Here g W X A l s sc env ρ)(e:ai):
  SC W X l (RV W X) n A (eval e env) s (wY C g E₀ E₁ sc e ρ):=by
 cases e with
 |Constant c k p=>exact Fv H
 |Name x p=>exact Gc O hC H x p
 |Tuple es k p=>exact tJ λh=>by rw[aI,decide_eq_true_eq]at h;exact FA hE H h.1 h.2
 |List es p=>exact tJ λh=>by rw[aI,decide_eq_true_eq]at h;exact FD hE H h.1 h.2
 |BinOp a op b p=>exact Fx hE O H
 |UnaryOp op x p=>
  cases op with
  |Not=>exact Fy hE H
  |USub=>exact Gd H x p
  |_=>exact eu
 |Compare a ops rs p=>exact FG hE hC H
 |BoolOp op vs p=>exact tC hE _ s H
 |IfExp t b o p=>exact Fz hE H
 |Subscript v i p=>exact Ge hE H v i p
 |Call f as ks p=>
  cases ks with
  |cons=>exact eu
  |nil=>
   show SC _ _ _ _ _ _ _ _ (match gY f with|some q=>jx C g E₀ E₁ sc q.1 as ρ|none=>match o4 f with|some q=>jy C g E₀ E₁ sc q.1 q.2.1 q.2.2 as p ρ|none=> .stuck)
   cases h:gY f with
   |some q=>rw[lE h];exact Gh O hE hC hg H q.1 q.2 p as
   |none=>
    cases h2:o4 f with
    |some q=>rw[D' h2];exact Gi hE hC hg H q.1 q.2.1 q.2.2 p as
    |none=>exact eu
 |Attribute o a p=>
  show SC _ _ _ _ _ _ _ _ (sL C E₀ sc o a ρ)
  unfold sL
  split
  ·exact eu
  ·rename_i hb
   exact FU O hE hC H (by simpa using hb)
 |ListComp elt gs csc p=>exact Gj hE hE1 H elt gs csc p
 |JoinedStr parts p=>exact tJ λh=>by rw[aI,decide_eq_true_eq,decide_eq_true_eq]at h;exact Gb hE H h.1 h.2
 |_=>exact eu
theorem iy(O:aZ W)(hC:bu W n C):∀k,aM false W n (pE C false k)
 |0=>⟨λø ø ø ø ø ø ø ø ø hne=>absurd rfl hne,λø ø ø ø ø ø ø ø ø hne=>absurd rfl hne⟩
 |k+1=>⟨λsc e X A l s env ρ H=>yq O (iy O hC k) (iy O hC k) hC (λh=>vZ h) H e,λsc e X A l s env ρ H=>xX (iy O hC k) hC H e⟩
theorem SC.mono{γ β:Type}{R:Heap->γ->β->Prop}{t:Sem γ}{r:Res β}{m:Nat}(h:SC W X l R n A t s r)(hm:n<=m):SC W X l R m A t s r:=λhne hd hu=>h hne (rP ‹_› ‹_›) (rQ ‹_› ‹_›)
theorem aM.mono{m:Nat}(h:aM g W n E₀)(hm:n<=m):aM g W m E₀:=⟨λsc e X A l s env ρ H=>(h.1 sc e X A l s env ρ H).mono hm,λsc e X A l s env ρ H=>(h.2 sc e X A l s env ρ H).mono hm⟩
theorem bu.mono{m:Nat}(h:bu W n C)(hm:n<=m):bu W m C where
 fn:=λf hf=>by obtain⟨fv,h1,h2,h3⟩:=h.fn f hf;exact⟨fv,h1,h2,λargs A l s X vs R r=>(h3 args A l s X vs R r).mono hm⟩
 meth:=λc m hf=>by obtain⟨fv,h1,h2,h3⟩:=h.meth c m hf;exact⟨fv,h1,h2,λargs A l s X vs R r=>(h3 args A l s X vs R r).mono hm⟩
 eq:=λc fs d gs A l s X va vb R ra rb=>(h.eq c fs d gs A l s X va vb R ra rb).mono hm
 prop:=λc a fs hf A l s X va R ra=>(h.prop c a fs hf A l s X va R ra).mono hm
 glob:=h.glob
end
end
section
structure Lv(l:List av)(D U:Nat)(A:aA):Prop where
 handled:A.handled=none
 frames:A.frames=some l
 guards:A.guards=some []
 depth:A.depth<=D
 units:A.units<=U
structure lP(W:Wd)(Lv:aA->Prop)(I:Addr)(fp:List Addr)(n:Nat)(P:Nat->ae->Prop)(St:Nat->ah->Prop)(Fn:ah->Prop):Prop where
 frame:∀i (s:ah) h' tk,St i s->(∀b∈fp,∀o,s.heap.get? b=some o->h'.get? b=some o)->St i {s with heap:=h',toks:=tk}
 item:∀A,Lv A->∀i (s:ah) (Q:Option ae->ah->Prop) (E:ae->ah->Prop),i<n->St i s->
  (∀v s',P i v->St (i+1) s'->(∀b o,dh o->b∉fp->s.heap.get? b=some o->s'.heap.get? b=some o)->Q (some v) s')->wpAny W.M A (pyNext (.ref I)) Q E s
 done:∀A,Lv A->∀(s:ah) (Q:Option ae->ah->Prop) (E:ae->ah->Prop),St n s->(∀s',Fn s'->(∀b o,dh o->b∉fp->s.heap.get? b=some o->s'.heap.get? b=some o)->Q none s')->wpAny W.M A (pyNext (.ref I)) Q E s
 self:∀A,Lv A->∀i (s:ah) (Q:ae->ah->Prop) (E:ae->ah->Prop),St i s->Q (.ref I) s->wpAny W.M A (pyIter (.ref I)) Q E s
 fin:∀i s,i<=n->St i s->Fn s
 gen:∀i s,St i s->s.TypeIs (.ref I) "generator"
section
variable{W:Wd}{L:aA->Prop}{A:aA}{I:Addr}{fp:List Addr}{n:Nat}{P:Nat->ae->Prop}{St:Nat->ah->Prop}{Fn:ah->Prop}{R:Result->ah->Prop}
theorem Gk(T:lP W L I fp n P St Fn)(hA:L A.in1)(tr:Nat->Bool)(htr:∀i v,P i v->v= .bool (tr i)):∀(k i:Nat) (s:ah),n-i=k->i<=n->St i s->
  (∀s',Fn s'->R (.ok (.ret (.bool (((iL n).drop i).any tr)))) s')->codeAny W.M A (.builtin "any.loop" ⟨[.ref I],[]⟩) R s:=by
 intro k
 induction k with
 |zero=>
  intro i s hk hi hst hR
  have hin:i=n:=sd ‹_› ‹_›
  subst hin
  refine oO Pb ?_
  rw[oP v3 _]
  refine aJ (T.done _ hA s _ _ hst λs' hm ø=> ?_)
  refine aJ (rA (bj ?_))
  have:=hR s' hm
  rw[rk (by simp)]at this
  exact this
 |succ k ih=>
  intro i s hk hi hst hR
  have hlt:i<n:=rX ‹_›
  have hd:(iL n).drop i=i::(iL n).drop (i+1):=by
   rw[v4 (by simpa using hlt)];simp
  refine oO Pb ?_
  rw[oP v3 _]
  refine aJ (T.item _ hA i s _ _ hlt hst λv s' hP hst' hm=> ?_)
  have hv:=htr i v hP
  subst hv
  refine aJ (iM (CV ?_))
  refine aJ (wpAny_letGo ?_)
  cases hb:tr i with
  |false=>
   simp only[oN,if_false]
   refine bj ⟨rB v3 _,ih (i+1) _ (mO ‹_›) hlt hst' λs'' hm' => ?_⟩
   have:=hR s'' hm'
   rw[hd,rt,hb,Bool.false_or]at this
   exact this
  |true=>
   simp only[if_true]
   refine aJ (rA (bj ?_))
   have:=hR s' (T.fin _ _ hlt hst')
   rw[hd,rt,hb,Bool.true_or]at this
   exact this
theorem Gl{s:ah}{E Q:ae->ah->Prop}(T:lP W L I fp n P St Fn)(h1:L A.in1)(tr:Nat->Bool)(htr:∀i v,P i v->v= .bool (tr i))(hst:St 0 s)(hQ:∀s',Fn s'->Q (.bool ((iL n).any tr)) s'):
  wpAny W.M A (call (.builtin "any") [.ref I]) Q E s:=by
 refine call_function_tree PySem.F.kind_any PySem.F.plain_any PySem.F.entry_any (PySem.F.args_any1 _) ?_
 unfold Builtin.«any»
 refine aJ (m:=oneArg "any" _) (bj ?_)
 refine aJ (T.self _ h1 0 s _ _ hst ?_)
 exact bj ⟨rB v3 _,Gk T h1 tr htr n 0 s rfl (dZ _) hst λs' hm=>by simpa using hQ s' hm⟩
theorem Gm(T:lP W L I fp n P St Fn)(hA:L A.in1)(hn:n<=sizeLine)(S:Addr)(hSf:S∉fp)(res:ae):
  ∀(k i:Nat) (s:ah) (acc:Array ae) (c:Nat),n-i=k->i<=n->St i s->s.heap.get? S=some {cls:= .type "list",dict:=none,data:= .seq acc c,slots:= #[]}->ItemsOf P acc i->
  (∀s' acc' c',Fn s'->s'.heap.get? S=some {cls:= .type "list",dict:=none,data:= .seq acc' c',slots:= #[]}->ItemsOf P acc' n->R (.ok (.ret res)) s')->
  codeAny W.M A (.builtin "list.extend.loop" ⟨[.ref S, .ref I,res],[]⟩) R s:=by
 have sol:∀acc c,dh {cls:= .type "list",dict:=none,data:= .seq acc c,slots:= #[]}:=λø ø=>⟨⟨"list",by simp[fq],rfl⟩,by intro ø ø q;cases q⟩
 intro k
 induction k with
 |zero=>
  intro i s acc c hk hi hst hS hacc hR
  have hin:i=n:=sd ‹_› ‹_›
  subst hin
  refine oO Pc ?_
  rw[oP v5 _]
  refine aJ (T.done _ hA s _ _ hst λs' hm hs=> ?_)
  exact bj (hR s' acc c hm (hs S _ (sol _ _) hSf hS) hacc)
 |succ k ih=>
  intro i s acc c hk hi hst hS hacc hR
  have hlt:i<n:=rX ‹_›
  refine oO Pc ?_
  rw[oP v5 _]
  refine aJ (T.item _ hA i s _ _ hlt hst λv s' hP hst' hs=> ?_)
  have hS':=hs S _ (sol _ _) hSf hS
  refine aJ ?_
  refine Df hS' rfl (bj ⟨rB v5 _,ih (i+1) _ (acc.push v) _ (mO ‹_›) hlt (T.frame _ s' _ s'.toks hst' λb hb o e=> ?_) (v6 _ hS' rfl) (hacc.push hP) hR⟩)
   (by rw[hacc.1];exact ao ‹_› ‹_›) (by show(acc.push v).size<=sizeLine+1;rw[Array.size_push,hacc.1];exact ff ‹_› ‹_› (by rfl))
  exact(v7 _ _ (λh:S=b=>hSf (by rw[h];exact hb))).trans e
end
end
section
section
variable{W:Wd}{L:aA->Prop}{A:aA}{I:Addr}{fp:List Addr}{n:Nat}{P:Nat->ae->Prop}{St:Nat->ah->Prop}{Fn:ah->Prop}{R:Result->ah->Prop}{s:ah}
theorem Gn{E:ae->ah->Prop}{Q:List ae->ah->Prop}(T:lP W L I fp n P St Fn)(hA:L A.in1)(hst:St 0 s)(hfp:∀b∈fp,b<s.heap.objs.size)(hI:I∈fp)
  (hQ:∀s' acc,Fn s'->ItemsOf P acc n->Q acc.toList s') (hn:n<=sizeLine):wpAny W.M A (collect (.ref I)) Q E s:=by
 have hSf:s.heap.objs.size∉fp:=λhm=>jg _ (hfp _ hm)
 have hSI:s.heap.objs.size≠I:=λe=>hSf (e▸hI)
 unfold collect
 refine aJ (wpAny_runValue (oO PySem.F.entry_proto_collect ?_))
 rw[oP PySem.F.plain_proto_collect _]
 refine aJ (ro ?_)
 refine bj ⟨rB Pd _,oO PySem.F.entry_list_iadd ?_⟩
 rw[oP Pd _]
 have hst1:=T.frame 0 s (s.heap.push {cls:= .type "list",data:= .seq ([]:List ae).toArray}) s.toks hst λb ø o e=>bX _ e
 have hT:=T.gen 0 _ hst1
 show wpAny _ A.in1 (Pe (.ref s.heap.objs.size) (.ref I) (.ref s.heap.objs.size)) _ _ _
 unfold Pe
 refine aJ (wpAny_typeOf hT ?_)
 have h1:Pf (.ref s.heap.objs.size) (.ref I)=false:=by simp[Pf,hSI]
 have h2:(rC "generator" ==rC "list")=false:=by decide
 have h3:(rC "generator" ==rC "tuple")=false:=by decide
 simp only[h1,h2,h3,Bool.or_false,oN,if_false]
 refine aJ (T.self _ hA 0 _ _ _ hst1 ?_)
 refine aJ (iM ?_)
 unfold Builtin.List.listLengthHint
 refine aJ (CX hT PySem.F.gen_no_len ?_)
 refine aJ (CX hT PySem.F.gen_no_hint ?_)
 refine bj ?_
 show wpAny _ A.in1 (rule "list.extend.makes-room" >>=λø=>Builtin.List.listTouch (.ref s.heap.objs.size)>>=λø=>
  again (.builtin "list.extend.loop" ⟨[.ref s.heap.objs.size, .ref I, .ref s.heap.objs.size],[]⟩)) _ _ _
 refine aJ (rA ?_)
 have hS₁:(s.heap.push {cls:= .type "list",data:= .seq ([]:List ae).toArray}).get? s.heap.objs.size=some {cls:= .type "list",data:= .seq ([]:List ae).toArray}:=ee _ rfl
 refine aJ ?_
 refine aJ (Df hS₁ rfl ?_)
 have hS2:=v6 (v8 (·.push j')) hS₁ rfl
 refine Df hS2 rfl ?_
 have oth:∀b o,b≠s.heap.objs.size->(s.heap.push {cls:= .type "list",data:= .seq ([]:List ae).toArray}).get? b=some o->
   (((s.heap.push {cls:= .type "list",data:= .seq ([]:List ae).toArray}).update s.heap.objs.size (v8 (·.push j'))).update s.heap.objs.size (v8 (·.pop))).get? b=some o:=
  λb o hb e=>(v7 _ _ (cH hb)).trans ((v7 _ _ (cH hb)).trans e)
 refine bj ⟨rB v5 _,Gm T hA hn _ hSf _ n 0 _ _ _ rfl (dZ _)
  (T.frame 0 ({s with heap:=s.heap.push {cls:= .type "list",data:= .seq ([]:List ae).toArray}}:ah) _ s.toks hst1 λb hb o e=>oth b o (λh=>hSf (h▸hb)) e) (v6 (v8 (·.pop)) hS2 rfl) (ItemsOf.nil P) λs' acc' c' hm hS' hacc=> ?_⟩
 refine aJ (wpAny_load hS' ?_)
 exact bj (hQ s' acc' hm hacc)
theorem Go{x:Str}{t:bE}{E Q:ae->ah->Prop}(T:lP W L I fp n P St Fn)(h1:L A.in1)(h2:L A.in1.in1)(hst:St 0 s)(hfp:∀b∈fp,b<s.heap.objs.size)(hI:I∈fp)
  (hstr:∀i v,P i v->∃y u,v=gB y u)
  (hq:∀s' (l:List (Str×bE)),Fn s'->ItemsOf P (strValues l).toArray n->JoinOk x (l.map (·.1))=true/\ ∀t' k,Q (.str (Txt.join x (l.map (·.1))) t') {s' with toks:=k})
  (hsz:n<=sizeLine):
  wpAny W.M A (call (.builtin "str.join") [.str x t, .ref I]) Q E s:=by
 refine jp (codeAny_call_builtin PySem.F.slot_str_join.plain PySem.F.entry_str_join (PySem.F.slot_str_join.check _ _ _ _ _ _ _ _ (oG _ _ _) (PySem.F.args_str_join_2 _ _) ?_))
 rw[join_tree_other]
 refine aJ (wpAny_typeOf (T.gen 0 s hst) ?_)
 refine aJ (wpAny_tryCatch (T.self _ h1 0 s _ _ hst ?_))
 refine aJ (Gn T h2 hst hfp hI (λs' acc hm hacc=> ?_) hsz)
 obtain⟨l,hl⟩:=exists_strValues acc.toList λv hv=>by
  obtain⟨j,hj,rfl⟩:=Array.mem_iff_getElem.mp (Array.mem_toList_iff.mp hv)
  exact hstr j _ (hacc.2 j _ (Array.getElem?_eq_getElem hj))
 rw[<-hl]
 have hacc':ItemsOf P (strValues l).toArray n:=by rw[hl];simpa using hacc
 refine xA (hq s' l hm hacc') λhok hpost=> ?_
 unfold JoinOk at hok
 rw[lj]at hok
 have g:Gives (joinTail x (strValues l)) (joinMade x l):=by
  have g0:=gives_joinTail x l hok
  cases l with
  |nil=>exact g0
  |cons p r=>cases r with
   |nil=>exact g0
   |cons q r' =>exact g0
 exact g ig W.w A (wants Q E) s' (post_join l ⟨joinFit_length hok,hpost⟩)
end
end
section
noncomputable def Gp(y:ae)(p:PV):Prop:=(∃b,p= .bool b/\ y= .bool b) \/(∃z t,p= .str (an z)/\ y= .str z t)
structure bZ where
 W:Wd
 X:Addr->Prop
 l:List av
 sr:ah
 I:Addr
 C:Addr
 a:Addr
 g:Nat
 wr:List Addr
 csc:Scope
 cenv:av
 x:Str
 px:ax
 elt:ai
 iter:ai
 gp:ax
 items:List PV
 ys:List PV
 fpI:List Addr
 P:Nat->ae->Prop
 St:Nat->Heap->Prop
 h₁:Heap
noncomputable abbrev bZ.N(G:bZ):Nat:=G.C
noncomputable abbrev bZ.fp(G:bZ):List Addr:=G.a::G.C::iL G.C
noncomputable abbrev bZ.X'(G:bZ):Addr->Prop:=λb=>b∈G.wr
noncomputable abbrev bZ.code(G:bZ):Code:= .compLoop (.GeneratorExp G.elt [⟨.Name G.x G.px,G.iter,[],0⟩] G.csc G.gp) 0 (.ref G.I) .none G.cenv
noncomputable abbrev bZ.code0(G:bZ):Code:= .compStart (.GeneratorExp G.elt [⟨.Name G.x G.px,G.iter,[],0⟩] G.csc G.gp) 0 (.ref G.I) .none G.cenv
structure bZ.Ok(G:bZ)(E₁:Ev)(A:aA)(n:Nat):Prop where
 O:aZ G.W
 hE:aM false G.W n E₁
 R:Ready G.W G.X A G.l G.sr
 It:tE G.W G.X G.sr.heap G.h₁ G.I G.fpI G.P G.St G.items
 envk:jF false G.W G.csc G.cenv
 frame:G.cenv.frame=some G.C
 locals:G.cenv.locals=G.C
 plain:g7 G.csc=true
 cscope:G.cenv.scope=G.csc
 loc:bQ G.csc G.x=true
 len:G.ys.length=G.items.length
 each:∀(i:Nat) (p y:PV),G.items[i]? =some p->G.ys[i]? =some y->E₁.ev G.csc G.elt [(G.x,p)]= .ok y
 flat:∀y∈G.ys,(∃b,y= .bool b) \/(∃z,y= .str z)
 wrC:G.C∈G.wr
 wrI:G.I∈G.wr
 wrF:∀env∈G.l,∀L,env.frame=some L->L∈G.wr
 wrT:∀q∈G.W.tabs,q.2∈G.wr
 wrX:∀b∈G.wr,G.X b \/b=G.C \/b=G.I
 nI:G.sr.heap.get? G.I=none
 nC:G.sr.heap.get? G.C=none
 na:G.sr.heap.get? G.a=none
 gsz:G.sr.gens.size<=G.g
 ltI:(G.I:Nat)<G.C
 lta:(G.C:Nat)<G.a
 size:G.sr.heap.objs.size<=G.C
 dep:A.depth+n+1<=900
 uni:A.units+4+10*n<=9000
structure bZ.At(G:bZ)(i:Nat)(s:ah):Prop where
 M:be G.W G.X' G.C G.sr s
 st:G.St i s.heap
 ns:∃m,s.heap.Ns G.C m
 lives:∀b∈G.wr,∃o,s.heap.get? b=some o
noncomputable def bZ.Rel(G:bZ)(s₀ s:ah):Prop:=cY s₀.gens s.gens/\ ∀b o,dh o->b≠G.I->b≠G.C->s₀.heap.get? b=some o->s.heap.get? b=some o
noncomputable def bZ.F(G:bZ)(i:Nat)(v:ae):Prop:=∃p,G.ys[i]? =some p/\ Gp v p
noncomputable def bZ.Y(G:bZ):Protocol:=λm s₀ v s kap=>∃i,i+m+1=G.items.length/\ G.F i v/\ G.At (i+1) s/\ G.Rel s₀ s/\ ∀s'',G.At (i+1) s''->kap (.send .none) s''
noncomputable def bZ.End(G:bZ):GenEnd:=λn s₀ r s=>r= .ok .next/\ (n=0/\ be G.W G.X' G.C G.sr s/\ G.Rel s₀ s)
section
variable{G:bZ}{E₁:Ev}{A:aA}{n:Nat}
theorem bZ.Ok.tabs(K:G.Ok E₁ A n):∀q∈G.W.tabs,∃o,G.sr.heap.get? q.2=some o:=λq hq=>K.R.xlt _ (K.R.xtabs q hq)
theorem bZ.Ok.notwr(K:G.Ok E₁ A n){b:Addr}{o:Obj}(e:G.sr.heap.get? b=some o)(nx:¬G.X b):¬G.X' b:=λh=>by
 rcases K.wrX b h with q|q|q
 ·exact nx q
 ·rw[q,K.nC]at e;exact al e
 ·rw[q,K.nI]at e;exact al e
theorem bZ.Ok.lt(K:G.Ok E₁ A n){b:Addr}{o:Obj}(e:G.sr.heap.get? b=some o):b∈iL G.C:=
 ji.mpr (eN (eA e) K.size)
theorem bZ.Ok.ready(K:G.Ok E₁ A n){s:ah}{A':aA}(h1:A'.handled=none)(h2:A'.frames=some (G.cenv::G.l))(h3:A'.guards=some [])(M:be G.W G.X' G.C G.sr s)(hn:∃m,s.heap.Ns G.C m)(hw:∀b∈G.wr,∃o,s.heap.get? b=some o):
  Ready G.W G.X' A' (G.cenv::G.l) s where
 inv:=M.inv
 frames:=h2
 guards:=h3
 handled:=h1
 below:=λenv he=>by
  rcases bR.mp he with q|q
  ·subst q
   refine xE hn λm hm=> ?_
   refine⟨by rw[K.envk.scope];decide,G.C,m,K.frame,?_,hm,K.wrC⟩
   cases e:G.W.base.get? G.C with
   |none=>rfl
   |some o=>have:=K.R.inv.stays _ _ e;rw[K.nC]at this;exact al this
  ·refine gW (K.R.below env q) λk L f e1 e2 e3 e4=> ?_
   refine⟨k,L,f,e1,e2,M.ns L f (λq=> ?_) e3,K.wrF env ‹_› L e1⟩
   refine dc e3 λo ø ø e' ø=> ?_
   rw[q,K.nC]at e';cases e'
 xtabs:=K.wrT
 xbase:=λb o e hx=>by
  have e':=K.R.inv.stays _ _ e
  rcases K.wrX b hx with q|q|q
  ·exact K.R.xbase b o e q
  ·rw[q,K.nC]at e';cases e'
  ·rw[q,K.nI]at e';cases e'
 xlt:=hw
theorem Gq(K:G.Ok E₁ A n){i:Nat}{s:ah}{h':Heap}{tk:Nat}(x:G.At i s)(hk:∀b∈G.fp,∀o,s.heap.get? b=some o->h'.get? b=some o):G.At i {s with heap:=h',toks:=tk}:=by
 have old:∀b o,G.sr.heap.get? b=some o->∀o',s.heap.get? b=some o'->h'.get? b=some o':=λb o e o' e' =>hk b (dN _ (dN _ (K.lt e))) o' e'
 have hC:∀o',s.heap.get? G.C=some o'->h'.get? G.C=some o':=λo' e=>hk _ (dN _ (fO ..)) o' e
 refine⟨⟨⟨λb o e=>old b o (K.R.inv.stays b o e) o (x.M.inv.stays b o e),λq hq=> ?_,x.M.inv.gens⟩,λb o k e=>old b o e o (x.M.keep b o k e),λL f hL e=> ?_,x.M.gens,x.M.os,x.M.drawn,λb o e=> ?_,λb o t e=>old b o e o (x.M.solid b o t e)⟩,?_,?_,?_⟩
 ·refine ay (x.M.inv.tabs q hq) λps h1 h2=> ?_
  refine xE (K.tabs q hq) λoq eq=> ?_
  refine ay (K.R.inv.tabs q hq) λps' k1 ø=> ?_
  refine rM k1 λoc ø ø ø ø ø ø ø ø ø ec ø=> ?_
  refine⟨ps,?_,?_⟩
  ·refine DE h1 λo vs file tf flags tg inF text tt op a r1 r2 r3 r4 r5 r6 b r=> ?_
   exact⟨o,vs,file,tf,flags,tg,inF,text,tt,op,old _ _ ec _ a,r1,r2,r3,r4,r5,r6,old _ _ eq _ b,r⟩
  ·refine xA h2 λzn1 t=> ?_
   refine dR zn1 λo vs a r=> ?_
   exact⟨⟨o,vs,old _ _ ec _ a,r⟩,old _ _ eq _ t⟩
 ·have e1:=x.M.ns L f hL e
  refine dc e λo ø ø e' ø=> ?_
  exact e1.at' λo' e2=>old L o e' o' e2
 ·refine xE (x.M.live b o e) λo' e' => ?_
  exact⟨o',old b o e o' e'⟩
 ·refine(K.It.walks A K.R.handled).frame _ _ _ x.st λb hb o e=> ?_
  rcases K.It.fps b hb with q|⟨o',q,_,_⟩
  ·subst q;exact hk _ (dN _ (dN _ (ji.mpr K.ltI))) o e
  ·exact old b o' q o e
 ·refine xE x.ns λm hm=> ?_
  exact⟨m,hm.at' hC⟩
 ·intro b hb
  refine xE (x.lives b hb) λo e=> ?_
  refine⟨o,?_⟩
  rcases K.wrX b hb with q|q|q
  ·refine xE (K.R.xlt b q) λo' e' => ?_
   exact old b o' e' o e
  ·subst q;exact hC o e
  ·subst q;exact hk _ (dN _ (dN _ (ji.mpr K.ltI))) o e
end
end
section
section
variable{G:bZ}{E₁:Ev}{A:aA}{n:Nat}
theorem cY.setGen{s:ah}{g:Nat}{x:gy}{a:Array gy}(h:cY a s.gens)(hg:a.size<=g):cY a (s.setGen g x).gens:=
 ⟨by simpa[v9] using h.1,λk hk=>by
  have hne:g≠k:=mB (eN hk hg)
  have:(s.setGen g x).gens[k]? =s.gens[k]? :=by simp[v9,hne]
  rw[this];exact h.2 k hk⟩
theorem yr(elt iter:ai)(x:Str)(px:ax)(csc:Scope)(pos:ax)(it acc:ae)(env:av):
  compTurn (.GeneratorExp elt [⟨.Name x px,iter,[],0⟩] csc pos) 0 it acc env=(do
   standAt iter.pos
   match<-pyNext it with
   |none=>pure (.done .next)
   |some v=>
    letOwnedTupleGo (.Name x px) it v
    assign (.Name x px) env v
    (do let v<-eval elt env;standAt elt.pos;let _<-yieldOut env v)
    again (.compLoop (.GeneratorExp elt [⟨.Name x px,iter,[],0⟩] csc pos) 0 it acc env)):=by rfl
theorem Gr(hR:Ready G.W G.X A G.l G.sr):(A.over G.code []).frames=some (G.cenv::G.l)/\ (A.over G.code []).guards=some []/\ (A.over G.code []).handled=none/\ (A.over G.code []).depth=A.depth+1/\ (A.over G.code []).units=A.units+3:=by
 refine⟨?_,?_,hR.handled,?_,?_⟩
 ·show pushEnvs G.code.envs (pushEnvs [] A.frames)=_
  rw[hR.frames];rfl
 ·show pushGuards G.code.guards (pushGuards [] A.guards)=_
  rw[hR.guards];rfl
 ·show A.depth+0+G.code.weight=_
  have:G.code.weight=1:=rfl
  exact rfl
 ·show A.units+0+G.code.cUnits=_
  have:G.code.cUnits=3:=rfl
  exact rfl
theorem Gs(K:G.Ok E₁ A n):∀(k i:Nat) (s₀ s:ah),G.items.length-i=k->i<=G.items.length->G.At i s->G.Rel s₀ s->
  Seg G.W.M A G.End G.Y (G.items.length-i) s₀ G.code (G.W.M.den G.code) [] s:=by
 refine kj (Gr K.R) λa1 a2 a3 a4 a5=> ?_
 have hx:G.cenv.kindOf G.x=some .local:=by
  have:G.cenv.kindOf G.x=G.cenv.scope.names.lookup G.x:=rfl
  rw[this,K.cscope];exact cG K.loc
 refine kj (kC K.plain) λf1 f2 f3 f4 f5=> ?_
 have hp:(G.cenv.scope.kind== .class||(G.cenv.scope.kind== .module&&G.cenv.locals !=G.cenv.globals))=false:=by rw[K.cscope,f1];rfl
 intro k
 induction k with
 |zero=>
  intro i s₀ s hk hi x hrel
  have hin:i=G.items.length:=sd ‹_› ‹_›
  subst hin
  rw[Nat.sub_self]
  show Seg _ A _ _ _ s₀ _ ((compTurn (.GeneratorExp G.elt [⟨.Name G.x G.px,G.iter,[],0⟩] G.csc G.gp) 0 (.ref G.I) .none G.cenv).onRaise (leaving G.cenv)) [] s
  rw[yr,Dg]
  refine gT (lk ?_)
  refine gT ((K.It.walks _ a3).done s _ _ x.st λh' tk hk' => ?_)
  have ext:eP G.I s.heap h':=gD hk'
  refine bA (K.It.own _ _ x.st) λoI eI sI nI=> ?_
  exact seg_end (.ok .next) ⟨rfl,rfl,x.M.chg (tk:=tk) K.R.inv K.nI ext (.inr nI) K.tabs,hrel.1,λb o t hb hc e=>ext b o hb (hrel.2 b o t hb hc e)⟩
 |succ k ih=>
  intro i s₀ s hk hi x hrel
  have hlt:i<G.items.length:=rX ‹_›
  obtain⟨m,hm⟩:∃m,G.items.length-i=m+1:=⟨G.items.length-i-1,rZ ‹_›⟩
  have hm':G.items.length-(i+1)=m:=mO ‹_›
  rw[hm]
  show Seg _ A _ _ _ s₀ _ ((compTurn (.GeneratorExp G.elt [⟨.Name G.x G.px,G.iter,[],0⟩] G.csc G.gp) 0 (.ref G.I) .none G.cenv).onRaise (leaving G.cenv)) [] s
  rw[yr,Dg]
  refine gT (lk ?_)
  refine gT ((K.It.walks _ a3).item i s _ _ hlt x.st λv h₁ tk1 hP st₁ k₁=> ?_)
  have ext1:eP G.I s.heap h₁:=gD k₁
  refine bA (K.It.own _ _ x.st) λoI eI sI nI=> ?_
  refine bA (K.It.own _ _ st₁) λoI1 eI1 sI1 nI1=> ?_
  have hIC:G.I≠G.C:=eZ K.ltI
  have M₁:be G.W G.X' G.C G.sr {s with heap:=h₁,toks:=tk1}:=x.M.chg K.R.inv K.nI ext1 (.inr nI) K.tabs
  refine xE x.ns λmm hns=> ?_
  have hns₁:h₁.Ns G.C mm:=hns.at' λo e=>ext1 G.C o (cH hIC) e
  refine gT (wpAny_of_eq (rfl:letOwnedTupleGo (.Name G.x G.px) (.ref G.I) v=pure ()) ?_)
  refine gT (kc (lm hx (by rw[K.locals];exact hns₁) (λh₂ hn2 hs₂=> ?_) hp))
  rw[K.locals]at hn2 hs₂
  have ext2:eP G.C h₁ h₂:=hs₂.extBut
  have M₂:be G.W G.X' G.C G.sr {s with heap:=h₂,toks:=tk1+1}:=M₁.chg (s₁:={s with heap:=h₁,toks:=tk1}) K.R.inv K.nC ext2 (.inl rfl) K.tabs
  have st₂:G.St (i+1) h₂:=(K.It.walks A K.R.handled).frame _ _ _ st₁ λb hb o e=>ext2 b o (λq=>by
   rcases K.It.fps b hb with h|⟨o',h,_,_⟩
   ·exact hIC (h▸q)
   ·rw[q,K.nC]at h;exact al h) e
  refine bA (K.It.own _ _ st₂) λoI2 eI2 sI2 nI2=> ?_
  have hw2:∀b∈G.wr,∃o,h₂.get? b=some o:=λb hb=>by
   rcases K.wrX b hb with q|q|q
   ·refine xE (K.R.xlt b q) λo e=> ?_
    exact M₂.live b o e
   ·subst q
    refine dc hn2 λo ø ø e ø=> ?_
    exact⟨_,e⟩
   ·subst q;exact⟨_,eI2⟩
  refine ay (K.It.vals i v hP) λpv hpv rpv=> ?_
  have rep2:Rep G.W G.X' h₂ v pv:=rpv.mono (λb o nx e=>M₂.keep b o (K.notwr e nx) e) λb o e nx=>K.notwr e nx
  have H₂:Here false G.W G.X' (A.over G.code []) (G.cenv::G.l) {s with heap:=h₂,toks:=tk1+1} G.csc G.cenv [(G.x,pv)]:=by
   refine⟨(K.ready (s:={s with heap:=h₂,toks:=tk1+1}) a3 a1 a2 M₂ ⟨_,hn2⟩ hw2),K.envk,⟨?_,(λx=>if x=G.x then some v else mm x),?_,λy q e=> ?_⟩,λy q e=> ?_⟩
   ·rw[K.locals];exact K.wrC
   ·rw[K.locals];exact hn2
   ·rw[ca]at e
    cases h:y==G.x with
    |true=>rw[h]at e;obtain rfl:=aq e;rw[cG h];exact⟨v,by simp,rep2⟩
    |false=>rw[h]at e;exact al e
   ·rw[ca]at e
    cases h:y==G.x with
    |true=>rw[cG h];exact cG K.loc
    |false=>rw[h]at e;exact al e
  have hiy:i<G.ys.length:=by rw[K.len];exact hlt
  have hy:G.ys[i]? =some G.ys[i]:=fQ hiy
  have hel:=K.each i pv _ hpv hy
  have hyo:∀v,yieldOut G.cenv v=yieldValue v:=λv=>by simp only[yieldOut,K.cscope,f2,oN,if_false]
  simp only[hyo]
  rw[Sem.bind_eq_wrap',Sem.bind_eq_wrap',Sem.wrap_wrap,Sem.wrap_wrap]
  refine seg_wrap (K.hE.1 G.csc G.elt G.X' _ (G.cenv::G.l) _ G.cenv _ H₂ (by rw[hel];exact λq=>nomatch q) (by have:=K.dep;exact r8 ‹_›) (by have:=K.uni;exact DQ ‹_› (by rfl)) _ _ ⟨λvy q s₄ e1 a₄ r4=> ?_,λe' c s4' e1 ø=>by rw[hel]at e1;cases e1⟩)
  rw[hel]at e1
  obtain rfl:=de e1
  have M₄:be G.W G.X' G.C G.sr s₄:=M₂.after a₄
  have st₄:G.St (i+1) s₄.heap:=(K.It.walks A K.R.handled).frame _ _ _ st₂ λb hb o e=>by
   rcases K.It.fps b hb with h|⟨o',h,nx,_⟩
   ·subst h;rw[eI2]at e;obtain rfl:=aq e;exact a₄.solid _ _ sI2 eI2
   ·exact a₄.keep b o (K.notwr h nx) e
  have At4:G.At (i+1) s₄:=⟨M₄,st₄,⟨_,a₄.ns _ _ hn2⟩,λb hb=>by obtain⟨o,e⟩:=hw2 b hb;exact a₄.live b o e⟩
  have rel4:G.Rel s₀ s₄:=⟨hrel.1.trans a₄.gens,λb o t hb hc e=>a₄.solid b o t (ext2 b o hc (ext1 b o hb (hrel.2 b o t hb hc e)))⟩
  have hF:G.F i vy:=by
   refine⟨_,hy,?_⟩
   rcases K.flat _ (rE hiy)with ⟨b,h⟩|⟨z,h⟩
   ·rw[h]at r4 ⊢;cases r4;exact .inl ⟨b,rfl,rfl⟩
   ·rw[h]at r4 ⊢;cases r4;exact .inr ⟨_,_,rfl,rfl⟩
  refine seg_at (seg_yield rfl rfl rfl ⟨i,wL hlt hm',hF,At4,rel4,λs'' at'' => ?_⟩)
  have:=ih (i+1) s'' s'' (mO ‹_›) hlt at'' ⟨cY.refl _,λø ø ø ø ø e=>e⟩
  rw[hm']at this
  exact seg_again rfl this
end
end
section
section
variable{G:bZ}{E₁:Ev}{A:aA}{n:Nat}
theorem Gu(K:G.Ok E₁ A n){s₀ s:ah}(x:G.At 0 s)(hrel:G.Rel s₀ s):Seg G.W.M A G.End G.Y G.items.length s₀ G.code0 (G.W.M.den G.code0) [] s:=by
 have loop:=Gs K G.items.length 0 s₀ s (rj _) (dZ _) x hrel
 rw[rj]at loop
 have a3:(A.over G.code0 []).handled=none:=K.R.handled
 show Seg _ A _ _ _ s₀ _ ((compStart (.GeneratorExp G.elt [⟨.Name G.x G.px,G.iter,[],0⟩] G.csc G.gp) 0 (.ref G.I) .none G.cenv).onRaise (leaving G.cenv)) [] s
 unfold compStart
 rw[Dg]
 refine gT (wpAny_askSetting ?_)
 split
 ·exact seg_again rfl loop
 ·first
   |exact gT (rA (gT (lk (gT ((K.It.walks _ a3).self 0 s _ _ x.st (seg_again rfl loop))))))
   |(refine gT (rA ?_);exact gT (lk (gT ((K.It.walks _ a3).self 0 s _ _ x.st (seg_again rfl loop)))))
structure bZ.Gen(G:bZ)(A:aA)(i:Nat)(s:ah):Prop where
 at_:G.At i s
 isgen:s.heap.IsGen G.a G.g
 le:i<=G.items.length
 state:∃gs,s.gens[G.g]? =some gs/\ ∀s'',G.At i s''->gs.Goes G.W.M A G.End G.Y (G.items.length-i) (.send .none) s''
theorem yt{s:ah}{g:Nat}{x:gy}(h:AllBare s.gens)(hb:x.bare=true):AllBare (s.setGen g x).gens:=λy hy=>by
 refine ck (Array.mem_or_eq_of_mem_setIfInBounds (show y∈s.gens.setIfInBounds g x from hy)) (λq=> ?_) (λq=> ?_)
 ·exact h y q
 ·rw[q];exact hb
theorem tK(K:G.Ok E₁ A n){i:Nat}{s:ah}{x:gy}(h:G.At i s)(hb:x.bare=true):G.At i (s.setGen G.g x):=
 ⟨⟨⟨h.M.inv.stays,h.M.inv.tabs,yt h.M.inv.gens hb⟩,h.M.keep,h.M.ns,cY.setGen h.M.gens K.gsz,h.M.os,h.M.drawn,h.M.live,h.M.solid⟩,h.st,h.ns,h.lives⟩
theorem Gv(K:G.Ok E₁ A n){s:ah}{x:gy}(h:be G.W G.X' G.C G.sr s)(hb:x.bare=true):be G.W G.X' G.C G.sr (s.setGen G.g x):=
 ⟨⟨h.inv.stays,h.inv.tabs,yt h.inv.gens hb⟩,h.keep,h.ns,cY.setGen h.gens K.gsz,h.os,h.drawn,h.live,h.solid⟩
theorem Gw{s:ah}{g:Nat}{x:gy}(h:g<s.gens.size):(s.setGen g x).gens[g]? =some x:=by simp[v9,h]
noncomputable def tL(M:Model)(A₀ A:aA):Prop:=∀{α:Type} (t:Sem α) (Q:α->ah->Prop) (E:ae->ah->Prop) (s:ah),wpAny M A₀ t Q E s->wpAny M A t Q E s
theorem Gx{h:Heap}{a:Addr}{g:Nat}(x:h.IsGen a g):∃o,h.get? a=some o/\ dh o:=by
 refine wC x λo ø ø e c d ø=> ?_
 exact⟨o,e,⟨_,by simp[fq],c⟩,by rw[d];intro ø ø q;cases q⟩
theorem yu(K:G.Ok E₁ A.in1 n)(hh:A.handled=none)(hroom:A.depth<recursionLimit)(haC:G.a≠G.C)(haI:G.a≠G.I):
  lP G.W (tL G.W.M A) G.a G.fp G.items.length G.F (G.Gen A.in1) (λs=>be G.W G.X' G.C G.sr s) where
 frame:=λi s h' tk x hk=>⟨Gq K x.at_ hk,let ⟨o,nm,qn,ho,r⟩:=x.isgen;⟨o,nm,qn,hk _ (fO ..) o ho,r⟩,x.le,x.state⟩
 item:=λA' hA i s Q E hlt x hQ=>hA _ _ _ _ (by
  refine ay x.state λgs hgs hgo=> ?_
  have hsz:G.g<s.gens.size:=by
   refine ck (oA G.g s.gens.size) (λq=> ?_) (λq=> ?_)
   ·exact q
   ·rw[vQ q]at hgs;exact al hgs
  have at1:G.At i (s.setGen G.g .running):=tK K x.at_ rfl
  refine wpAny_pyNext_genexpQ (P:=λn s₀ s₁=>n=0/\ be G.W G.X' G.C G.sr s₁/\ G.Rel s₀ s₁) hh (x.at_.M.inv.nolimit K.O) hroom x.isgen hgs (hgo _ at1) (λv s₁ gs' hb hv=> ?_) (λs₁ hp h' hk=> ?_)
  ·refine wB hv λi' hi hF at2 rel hkap=> ?_
   have e:i' =i:=D6 hlt hi
   subst e
   obtain⟨m,hm⟩:∃m,G.items.length-i' =m+1:=⟨G.items.length-i'-1,rZ ‹_›⟩
   rw[hm]at hkap
   have hm':G.items.length-(i'+1)=m:=mO ‹_›
   have hsz1:G.g<s₁.gens.size:=eN (by simpa[v9] using hsz) rel.1.1
   have sol:∀b o,dh o->b≠G.I->b≠G.C->s.heap.get? b=some o->s₁.heap.get? b=some o:=rel.2
   refine ay (Gx x.isgen) λog eg sg=> ?_
   refine hQ v _ hF ⟨tK K at2 hb,?_,hlt,gs',Gw hsz1,λs'' a'' => ?_⟩ λb o t hb e=>sol b o t (λq=>hb (q▸dN _ (dN _ (ji.mpr K.ltI)))) (λq=>hb (q▸dN _ (fO ..))) e
   ·refine dc x.isgen λo nm qn ho r=> ?_
    rw[eg]at ho;obtain rfl:=aq ho
    exact⟨og,nm,qn,sol _ _ sg haI haC eg,r⟩
   ·rw[hm'];exact hkap s'' a''
  ·refine xA hp λh0 ø=> ?_
   exact absurd h0 (Nat.sub_ne_zero_of_lt hlt))
 done:=λA' hA s Q E x hQ=>hA _ _ _ _ (by
  refine ay x.state λgs hgs hgo=> ?_
  rw[Nat.sub_self]at hgo
  have at1:G.At G.items.length (s.setGen G.g .running):=tK K x.at_ rfl
  refine wpAny_pyNext_genexpQ (P:=λn s₀ s₁=>n=0/\ be G.W G.X' G.C G.sr s₁/\ G.Rel s₀ s₁) hh (x.at_.M.inv.nolimit K.O) hroom x.isgen hgs (hgo _ at1) (λv s₁ gs' hb hv=> ?_) (λs₁ hp h' hk=> ?_)
  ·refine wB hv λi' hi hF at2 rel hkap=> ?_
   exact(hkap _ at2).elim
  ·refine bL hp λø M1 rel=> ?_
   have M2:=Gv K M1 (x:= .finished) rfl
   refine hQ _ (M2.trans (C:=G.C) (After.moves ?_)) λb o t hb e=>hk b o (rel.2 b o t (λq=>hb (q▸dN _ (dN _ (ji.mpr K.ltI)))) (λq=>hb (q▸dN _ (fO ..))) e)
   exact After.of_keeps (tk:=s₁.toks) M2.inv hk)
 self:=λA' hA i s Q E x hQ=>hA _ _ _ _ (wpAny_pyIter_gen x.isgen hQ)
 fin:=λi s ø x=>x.at_.M
 gen:=λi s x=>x.isgen.typeIs
end
end
section
section
variable{W:Wd}{X:Addr->Prop}{A:aA}{s:ah}{l:List av}{n:Nat}{sc:Scope}{env:av}{ρ:aj}{C:Calls}{E₀ E₁:Ev}
theorem yv{h:Heap}{c P c' P':Addr}{ps ps':Array ae}(x:h.TableAt c P ps)(y:h.TableAt c' P' ps'):c≠P':=λq=>by
 refine xA x λzn1 ø=> ?_
 refine io zn1 λo vs e k ø=> ?_
 refine xA y λø e' => ?_
 rw[q,e']at e;obtain rfl:=aq e;cases k
theorem Gy(O:aZ W)(I:Inv W s){c P:Addr}{pos:ax}{qn:Str}{scope:Scope}(hc:env.code= .ref c)(hm:(c,P)∈W.tabs)(hX:X P)(hbase:∀o,W.base.get? P≠some o){Q E:ae->ah->Prop}
  (h:∀code s',After W X s s'->s'.gens=s.gens->Q code s'):wpAny W.M A (genexprCode env pos qn scope) Q E s:=by
 refine ay (I.tabs _ hm) λps hok htab=> ?_
 dsimp only at hok htab
 cases hf:codeAmong pos ps.toList with
 |some cc=>
  refine DF (id hok) λo vs file tf flags tg inF text tt op ho hd h11 h2 h7 h9 h10 hop hpd htr hne=> ?_
  unfold genexprCode codeAt
  rw[hc,if_neg (show¬((rF c==j')=true)from kd)]
  refine aJ (wpAny_fieldsOf ho hd ?_)
  rw[h11]
  refine aJ (wpAny_fieldsOf hop hpd ?_)
  rw[hf]
  exact bj (h _ _ (After.refl I) rfl)
 |none=>
  refine wpAny_genexprCodeX hc hok htab hf λc' h' tk ext h1 h2 k1 k2 k3 k4=>h _ _ ?_ rfl
  have nP:s.heap.get? P=some {cls:= .none,data:= .fields ps}:=htab.2
  have nP':=k3.2
  have ne:∀b o,s.heap.get? b=some o->b≠P \/o={cls:= .none,data:= .fields ps}:=λb o e=>by
   by_cases q:b=P
   ·right;rw[q,nP]at e;obtain rfl:=aq e;rfl
   ·exact .inl q
  refine⟨⟨λb o e=>ext b o (λq=>hbase o (q▸e)) (I.stays b o e),λq hq=> ?_,I.gens⟩,λb o nx e=>ext b o (λq=>nx (q▸hX)) e,λL m hL=> ?_,cY.refl _,rfl,rfl,λb o e=> ?_,λb o t e=> ?_⟩
  ·refine ay (I.tabs q hq) λps' j1 j2=> ?_
   by_cases hP:q.2=P
   ·have:q=(c,P):=O.tabInj q hq (c,P) hm hP
    subst this
    exact⟨_,k1,k3⟩
   ·exact⟨ps',j1.extBut ext (yv j2 htab) hP,j2.extBut ext (yv j2 htab) hP⟩
  ·refine hL.at' λo e=>ext L o (λq=> ?_) e
   rw[q]at hL
   exact kB nP (by intro ø ø q;cases q) _ hL
  ·by_cases q:b=P
   ·exact⟨_,q▸nP'⟩
   ·exact⟨o,ext b o q e⟩
  ·refine ck (ne b o e) (λq=> ?_) (λq=> ?_)
   ·exact ext b o q e
   ·subst q
    refine xA t λzn2 ø=> ?_
    refine ay zn2 λT ø hT=> ?_
    cases hT
theorem Gz{csc:Scope}{i:ai}(h:eG csc i=true)(env:av)(x:ae):genFold i env x=pure x:=by
 unfold eG at h
 rw[aI]at h
 cases i<;>first|rfl|(exact absurd h.1 kd)
theorem GA{csc:Scope}{i:ai}(h:eG csc i=true):csc.names.lookup (".0" :Str)=some NameKind.local:=by
 unfold eG at h
 rw[aI]at h
 exact cG h.2
theorem yw{α β:Type}{g:α->Option β}:∀{l:List α},(∀v∈l,∃y,g v=some y)->(l.filterMap g).length=l.length/\ ∀(i:Nat) (p:α),l[i]? =some p->(l.filterMap g)[i]? =g p
 |[],_=>⟨rfl,λi p e=>by simp at e⟩
 |a::l,h=>by
  refine xE (h a (fO ..)) λy hy=> ?_
  refine xA (yw (l:=l) λv hv=>h v (dN _ hv)) λh1 h2=> ?_
  rw[vY,hy]
  refine⟨by simp[h1],λi p e=> ?_⟩
  cases i with
  |zero=>simp at e;subst e;simp[hy]
  |succ i=>simpa using h2 i p (by simpa using e)
theorem yx(O:aZ W)(hE:aM true W (n+4) E₀)(hE1:aM false W n E₁)(H:Here true W X A l s sc env ρ){elt iter:ai}{x:Str}{px gp:ax}{gsc:Scope}(hgp:eG gsc iter=true){v:PV}{items:List PV}{g:PV->Option PV}
  (hv:E₀.ev sc iter ρ= .ok v) (hit:bP v=some items) (hg:tF E₁ gsc x elt [] items g) (hd:A.depth+(n+4)<=900) (hu:A.units+10*(n+4)<=9000)
  (hflat:∀y∈items.filterMap g,(∃b,y= .bool b) \/(∃z,y= .str z)) {K E:ae->ah->Prop}
  (hK:∀(G:bZ) s',G.W=W->G.X=X->G.items=items->G.ys=items.filterMap g->G.l=l->After W X s G.sr->G.Ok E₁ A.in1.in1.in1 n->G.Gen A.in1.in1.in1 0 s'->G.a≠G.C->G.a≠G.I->(∀b∈G.fp,b<s'.heap.objs.size)->K (.ref G.a) s'):
  wpAny W.M A (eval (.GeneratorExp elt [⟨.Name x px,iter,[],0⟩] gsc gp) env) K E s:=by
 refine kj (kC hg.plain) λf1 f2 f3 f4 f5=> ?_
 refine dR (H.envk.code rfl) λc P hcode hcP=> ?_
 have hrl:(900:Nat)<recursionLimit:=by decide+kernel
 refine wpAny_GeneratorExp_make f2 (closureFor_none f4) f3 (GA hgp) f1 (dt (ao (bk _ _) ‹_›) hrl) (hE.1 sc iter X A l s env ρ H (by rw[hv];exact λq=>nomatch q) hd hu _ _ ⟨λva q s₁ e1 a₁ r₁=> ?_,λe' c s' e1 ø=>by rw[hv]at e1;cases e1⟩) (Gz hgp env)
 rw[hv]at e1
 obtain rfl:=de e1
 have H₁:=H.after a₁
 refine pC hit r₁ λo fp P' St so It=> ?_
 have a₂:After W X s₁ {s₁ with heap:=s₁.heap.push o}:=After.push H₁.ready.inv o
 refine⟨a₂.inv.nolimit O,?_⟩
 have hXP:X P:=H.ready.xtabs _ hcP
 have hbP:∀o,W.base.get? P≠some o:=λo e=>H.ready.xbase _ _ e hXP
 have nI:s₁.heap.get? s₁.heap.objs.size=none:=dP (bO _)
 have tl:∀q∈W.tabs,∃o,s₁.heap.get? q.2=some o:=λq hq=>H₁.ready.xlt _ (H₁.ready.xtabs q hq)
 have fl:∀env∈l,∀L,env.frame=some L->X L/\ ∃o,s₁.heap.get? L=some o:=λenv he L e=>by
  refine gW (H₁.ready.below env he) λø L' m e1 ø e3 e4=> ?_
  rw[e]at e1;obtain rfl:=aq e1
  refine dc e3 λo ø ø e5 ø=> ?_
  exact⟨e4,o,e5⟩
 refine Gy (X:=λb=>b=P) O a₂.inv hcode hcP rfl hbP λcd s₃ a₃ hgens=> ?_
 rw[H.envk.globals,H.envk.builtins]
 refine O.bfor A s₃ _ E a₃.inv λh' hn' hs' => ?_
 have z':h'.objs.size=s₃.heap.objs.size+1:=by rw[hs'.1,jn]
 have live3:∀b o',s₁.heap.get? b=some o'->∃o'',s₃.heap.get? b=some o'':=λb o' e=>a₃.live b o' (bX _ e)
 refine bA (It.own 0 _ It.start) λoI eI sI nsI=> ?_
 have eI3:s₃.heap.get? s₁.heap.objs.size=some oI:=a₃.solid _ _ sI eI
 have ltI:s₁.heap.objs.size<s₃.heap.objs.size:=eA eI3
 have nC:s₁.heap.get? s₃.heap.objs.size=none:=dP (fM ltI)
 have hall:∀v∈items,∃y,g v=some y:=λv hv=>by
  have:=hg.each v hv
  cases hgv:g v with
  |none=>rw[hgv]at this;cases de this
  |some y=>exact⟨y,rfl⟩
 refine xA (yw hall) λlen getg=> ?_
 let G:bZ:={W:=W,X:=X,l:=l,sr:=s₁,I:=s₁.heap.objs.size,C:=s₃.heap.objs.size,a:=h'.objs.size,g:=s₃.gens.size,wr:=s₃.heap.objs.size::s₁.heap.objs.size::(W.tabs.map (·.2)++l.filterMap (·.frame)),csc:=gsc,cenv:=genEnv gsc [] s₃.heap.objs.size cd builtinsNs env,x:=x,px:=px,elt:=elt,iter:=iter,gp:=gp,items:=items,ys:=items.filterMap g,fpI:=fp,P:=P',St:=St,h₁:=s₁.heap.push o}
 have wrmem:∀b,b∈G.wr↔b=s₃.heap.objs.size \/b=s₁.heap.objs.size \/(∃q∈W.tabs,q.2=b) \/∃env∈l,env.frame=some b:=λb=>by
  simp[G]
 have KO:G.Ok E₁ A.in1.in1.in1 n:=by
  refine {O:=O,hE:=hE1,R:=⟨H₁.ready.inv,H₁.ready.frames,H₁.ready.guards,H₁.ready.handled,H₁.ready.below,H₁.ready.xtabs,H₁.ready.xbase,H₁.ready.xlt⟩,It:=It,envk:= ?_,frame:=rfl,locals:=rfl,plain:=hg.plain,cscope:=rfl,loc:=hg.loc,len:=len,each:= ?_,flat:=hflat,wrC:= ?_,wrI:= ?_,wrF:= ?_,wrT:= ?_,wrX:= ?_,nI:=nI,nC:=nC,na:= ?_,gsz:= ?_,ltI:=ltI,lta:= ?_,size:=fM ltI,dep:= ?_,uni:= ?_}
  ·exact⟨λh=>vZ h,f1,λy k e ø ø=>e,H.envk.globals,rfl,f3⟩
  ·intro i p y e1 e2
   have e3:=getg i p e1
   have e2':(items.filterMap g)[i]? =some y:=e2
   rw[e2']at e3
   have:=hg.each p (Db e1)
   rw[<-e3]at this
   exact this.2
  ·exact(wrmem _).mpr (.inl rfl)
  ·exact(wrmem _).mpr (.inr (.inl rfl))
  ·intro env he L e;exact(wrmem _).mpr (.inr (.inr (.inr ⟨env,he,e⟩)))
  ·intro q hq;exact(wrmem _).mpr (.inr (.inr (.inl ⟨q,hq,rfl⟩)))
  ·intro b hb
   rcases(wrmem _).mp hb with q|q|⟨q,hq,rfl⟩|⟨env,he,e⟩
   ·exact .inr (.inl q)
   ·exact .inr (.inr q)
   ·exact .inl (H₁.ready.xtabs q hq)
   ·exact .inl (fl env he b e).1
  ·exact dP (show s₁.heap.objs.size<=h'.objs.size by rw[z'];exact Dh (fM ltI))
  ·show s₁.gens.size<=s₃.gens.size
   rw[hgens];exact bO _
  ·show s₃.heap.objs.size<h'.objs.size
   rw[z'];exact gh _
  ·show A.depth+n+1<=900
   exact wE ‹_› (by rfl)
  ·show A.units+1+1+1+4+10*n<=9000
   exact DP ‹_› (by rfl)
 have keep₅:∀(ob:Obj) b o',s₃.heap.get? b=some o'->(h'.push ob).get? b=some o':=λob b o' e=>bX _ (hs'.extBut b o' (eZ (eA e)) (bX _ e))
 have XP:∀b,¬G.X' b->b≠P:=λb nb q=>nb ((wrmem _).mpr (.inr (.inr (.inl ⟨_,hcP,q.symm⟩))))
 have M₃:be W G.X' G.C s₁ s₃:=(((After.push H₁.ready.inv o:After W G.X' s₁ {s₁ with heap:=s₁.heap.push o,toks:=s₁.toks})).trans (a₃.weaken λb o e nx q=>XP b nx q)).moves
 have M₅:∀(ob:Obj) (gs:gy) (tk:Nat),gs.bare=true->be W G.X' G.C s₁ {s₃ with gens:=s₃.gens.push gs,toks:=tk,heap:=h'.push ob}:=λob gs tk hb=>
  ⟨⟨λb o' e=>keep₅ ob b o' (M₃.inv.stays b o' e),M₃.inv.tabs.keeps (keep₅ ob),M₃.inv.gens.push hb⟩,λb o' nb e=>keep₅ ob b o' (M₃.keep b o' nb e),λL f hL e=>(M₃.ns L f hL e).keeps (keep₅ ob),
   M₃.gens.trans ⟨by simp,λk hk=>by simp[Array.getElem?_push,eZ hk]⟩,M₃.os,M₃.drawn,λb o' e=>by obtain⟨o'',e''⟩:=M₃.live b o' e;exact⟨o'',keep₅ ob b o'' e''⟩,λb o' t e=>keep₅ ob b o' (M₃.solid b o' t e)⟩
 have at5:∀(ob:Obj) (gs:gy) (tk:Nat),gs.bare=true->G.At 0 {s₃ with gens:=s₃.gens.push gs,toks:=tk,heap:=h'.push ob}:=λob gs tk hb=>by
  have M:=M₅ ob gs tk hb
  refine⟨M,?_,⟨_,hn'.push ob⟩,λb hb' => ?_⟩
  ·refine(It.walks A H₁.ready.handled).frame _ _ _ It.start λb hb' o' e=> ?_
   rcases It.fps b hb' with q|⟨o'',q,nx,_⟩
   ·subst q;rw[eI]at e;obtain rfl:=aq e;exact keep₅ ob _ _ eI3
   ·have e2:(s₁.heap.push o).get? b=some o'':=bX _ q
    rw[e]at e2;obtain rfl:=aq e2
    exact M.keep b _ (KO.notwr q nx) q
  ·rcases(wrmem b).mp hb' with q|q|⟨q,hq,rfl⟩|⟨env,he,e⟩
   ·subst q
    refine dc (hn'.push ob) λo' ø ø e' ø=> ?_
    exact⟨o',e'⟩
   ·subst q;exact⟨_,keep₅ ob _ _ eI3⟩
   ·refine xE (tl q hq) λo' e' => ?_
    exact M.live _ _ e'
   ·refine DI (fl env he b e) λø o' e' => ?_
    exact M.live _ _ e'
 refine hK G _ rfl rfl rfl rfl rfl a₁ KO ⟨at5 _ _ _ rfl,⟨_,_,_,ee _ rfl,rfl,rfl,rfl⟩,dZ _,_,Array.getElem?_push_size ..,λs'' a'' =>⟨rfl,?_⟩⟩ ?_ ?_ ?_
 ·exact Gu KO a'' ⟨cY.refl _,λø ø ø ø ø e=>e⟩
 ·show h'.objs.size≠s₃.heap.objs.size
  rw[z'];exact Nat.succ_ne_self _
 ·show h'.objs.size≠s₁.heap.objs.size
  rw[z'];exact mB (lg ltI)
 ·intro b hb
  have zz:∀ob,(h'.push ob).objs.size=s₃.heap.objs.size+2:=λob=>by rw[jn,z']
  show b<(h'.push _).objs.size
  rw[zz]
  refine ck (bR.mp hb) (λq=> ?_) (λhb=> ?_)
  ·rw[q];show h'.objs.size<_;rw[z'];exact gh _
  ·refine ck (bR.mp hb) (λq=> ?_) (λhb=> ?_)
   ·rw[q];exact lg (gh _)
   ·exact lg (lg (ji.mp hb))
end
end
section
theorem GB{vs:List PV}{bs:List Bool}(h:iS vs=some bs):vs=bs.map .bool:=by
 induction vs generalizing bs with
 |nil=>obtain rfl:=aq h;rfl
 |cons v r ih=>
  refine bl h λb hb h=> ?_
  refine eR h λcs hc h=> ?_
  subst h
  rw[xT hb,ih hc];rfl
theorem GC{vs:List PV}{bs:List (List Nat)}(h:cO vs=some bs):vs=bs.map .str:=by
 induction vs generalizing bs with
 |nil=>obtain rfl:=aq h;rfl
 |cons v r ih=>
  refine bl h λb hb h=> ?_
  refine eR h λcs hc h=> ?_
  subst h
  rw[xa hb,ih hc];rfl
theorem GD(bs:List Bool):(iL bs.length).any (λi=>(bs[i]?).getD false)=bs.any id:=by
 rw[rf,List.any_eq_true,List.any_eq_true]
 constructor
 ·intro zn1
  refine ay zn1 λi hi h=> ?_
  have hlt:i<bs.length:=ji.mp hi
  rw[fQ hlt]at h
  exact⟨_,rE hlt,h⟩
 ·intro zn2
  obtain⟨b,hb,h⟩:=zn2
  obtain⟨i,hlt,e⟩:=List.mem_iff_getElem.mp hb
  exact⟨i,ji.mpr hlt,by rw[fQ hlt,e];exact h⟩
section
variable{W:Wd}{n:Nat}{C:Calls}{E₀ E₁:Ev}
theorem yy{M:Model}(A:aA):tL M A.in1.in1 A.in1:=λt Q E s h=>wpAny_of_in1 h
theorem GE{M:Model}(A:aA):tL M A.in1.in1 A.in1.in1:=λt Q E s h=>h
theorem yz{G:bZ}{A:aA}(K:G.Ok E₁ A n){s:ah}(M:be G.W G.X' G.C G.sr s):After G.W G.X G.sr s:=M.close (λb o e nx=>K.notwr e nx) K.nC
theorem GF(O:aZ W)(hE:aM true W (n+4) E₀)(hE1:aM false W n E₁):pF W (n+4) E₀ E₁ where
 any:=λX A l s sc env ρ H f p elt x px iter gsc gp pos hf hg hgp hne hd hu Q E F=>by
  subst hf
  obtain⟨v,h1,h2,h3⟩:=nr hne
  rw[h3]at hne F
  obtain⟨items,hit⟩:=er (ft hne)
  rw[hit,mQ,eF]at hne F
  obtain⟨g,hc,hpc⟩:=pD (ft hne)
  rw[hpc,eF]at hne F
  obtain⟨bs,hbs⟩:=er (ft hne)
  rw[hbs,mQ,eF]at F
  have hm:=GB hbs
  refine gA rfl ?_
  show wpAny _ _ _ (λf s₁=>wpAny _ _ (callWith pos f [] [(false,eval (.GeneratorExp elt [⟨.Name x px,iter,[],0⟩] gsc gp) env)] []) Q E s₁) E s
  refine kA O H (iY H hg) (by decide+kernel) (O.nogl _ (by simp[blt])) ((O.mbv _ (by decide+kernel)).trans (by kernel_rfl:bootBuiltins "any" =some (.builtin "any"))) ?_
  refine iZ (W:=W) "any" A E s pos [] _ Q rfl (Calls.evalArgs_plain (Calls.spliced_cons (yx O hE hE1 H hgp h1 hit hc hd hu (λy hy=> ?_) λG s' e1 e2 e3 e4 e5 a₁ K gen n1 n2 hfp=> ?_)))
  ·rw[hm,ij]at hy
   obtain⟨b,_,rfl⟩:=hy
   exact .inl ⟨b,rfl⟩
  ·subst e1 e2 e3
   refine Calls.spliced_nil ⟨gen.at_.M.inv,?_⟩
   have hrl:(900:Nat)<recursionLimit:=by decide+kernel
   have T:=yu (A:=A.in1.in1) K H.ready.handled (dt (ao (bk A.depth _) hd) hrl) n1 n2
   refine Gl T (yy A) (λi=>(bs[i]?).getD false) (λi v hF=> ?_) gen λs'' M=> ?_
   ·obtain⟨p,hp,hv⟩:=hF
    rw[e4,hm,ll]at hp
    cases hb:bs[i]? with
    |none=>rw[hb]at hp;exact al hp
    |some b=>
     rw[hb]at hp;obtain rfl:=aq hp
     rcases hv with ⟨b',h,h'⟩|⟨z,t,h,_⟩
     ·cases h;rw[h'];rfl
     ·cases h
   ·have len:bs.length=G.items.length:=by
     have:=K.len
     rw[e4,hm,cm]at this
     exact this
    rw[<-len,GD]
    exact F.1 _ _ _ rfl (a₁.trans (yz K M)) (.bool _)
 join:=λX A l s sc env ρ H y t elt x px iter gsc gp pos pl Q E hgp hd hu hne F=>by
  refine bA (nr hne) λv h1 h2 h3=> ?_
  rw[h3]at hne F
  refine xE (er (ft hne)) λitems hit=> ?_
  rw[hit,mQ,eF]at hne F
  refine ay (pD (ft hne)) λg hc hpc=> ?_
  rw[hpc,eF]at hne F
  obtain⟨r,hr⟩:=er hne
  rw[hr]at F
  have hj:∃ws,cO (items.filterMap g)=some ws/\ (an y).length+(aG (an y) ws).length<=aX/\ r= .str (aG (an y) ws):=by
   have hr':sF (an y) (items.filterMap g)=some r:=by
    rw[<-hr,ci]
    show _=mW (aa "join") (an y) (.list (items.filterMap g))
    unfold mW
    rw[if_neg (by decide+kernel),if_neg (by decide+kernel),if_neg (by decide+kernel),if_neg (by decide+kernel),if_pos rfl]
    rfl
   obtain⟨ws,q,k⟩:=C9.mp hr'
   obtain⟨k1,k2⟩:=ek k
   exact⟨ws,q,k1,k2.symm⟩
  obtain⟨ws,hws,hlen,rfl⟩:=hj
  have hm:=GC hws
  refine GM.join ?_
  show wpAny _ _ (callWith pos (.builtin "str.join") [.str y t] [(false,eval (.GeneratorExp elt [⟨.Name x px,iter,[],0⟩] gsc gp) env)] []) Q E s
  refine iZ (W:=W) "str.join" A E s pos [.str y t] _ Q rfl (Calls.evalArgs_plain (Calls.spliced_cons (yx O hE hE1 H hgp h1 hit hc hd hu (λy hy=> ?_) λG s' e1 e2 e3 e4 e5 a₁ K gen n1 n2 hfp=> ?_)))
  ·rw[hm,ij]at hy
   obtain⟨b,_,rfl⟩:=hy
   exact .inr ⟨b,rfl⟩
  ·subst e1 e2 e3
   refine Calls.spliced_nil ⟨gen.at_.M.inv,?_⟩
   have hrl:(900:Nat)<recursionLimit:=by decide+kernel
   have T:=yu (A:=A.in1.in1) K H.ready.handled (dt (show A.depth<=900 by exact ao (bk _ _) ‹_›) hrl) n1 n2
   have len:ws.length=G.items.length:=by
    have:=K.len
    rw[e4,hm,cm]at this
    exact this
   have few:=K.It.few
   have hsz:=f6
   have key:∀i v,G.F i v->∃z u,v= .str z u/\ ws[i]? =some (an z):=λi v hF=>by
    obtain⟨p,hp,hv⟩:=hF
    rw[e4,hm,ll]at hp
    cases hb:ws[i]? with
    |none=>rw[hb]at hp;exact al hp
    |some b=>
     rw[hb]at hp;obtain rfl:=aq hp
     rcases hv with ⟨b',h,h'⟩|⟨z,t,h,h'⟩
     ·cases h
     ·cases h;exact⟨z,t,h',rfl⟩
   refine Go T (yy A) (GE A) gen hfp (fO ..) (λi v hF=>by obtain⟨z,u,h,_⟩:=key i v hF;exact⟨z,u,h⟩) (λs'' l' M hI=> ?_) (ao ‹_› ‹_›)
   have hl:(l'.map (·.1)).map an=ws:=by
    refine List.ext_getElem? λi=> ?_
    have hs:=hI.1
    have hs':l'.length=G.items.length:=by
     have:(strValues l').toArray.size=l'.length:=by simp[strValues]
     rw[this]at hs;exact hs
    rw[ll,ll]
    cases hb:l'[i]? with
    |none=>
     have:l'.length<=i:=List.getElem?_eq_none_iff.mp hb
     rw[List.getElem?_eq_none (ao (dq (len.trans hs'.symm)) this)];rfl
    |some b=>
     obtain⟨z,u,h,h'⟩:=key i (.str b.1 b.2) (hI.2 i _ (by simp[strValues,hb]))
     cases h
     rw[h'];rfl
   refine⟨xF (by rw[hl];exact hlen),λt' k=>F.1 _ _ _ rfl (a₁.trans ((yz K M).trans (After.tok M.inv))) ?_⟩
   have:aG (an y) ws=an (Txt.join y (l'.map (·.1))):=by
    unfold Txt.join;rw[O',pr,hl]
   rw[this];exact .str _ _
theorem pG(O:aZ W)(hC:bu W n C):∀k,aM true W (n+4) (pE C true k)
 |0=>⟨λø ø ø ø ø ø ø ø ø hne=>absurd rfl hne,λø ø ø ø ø ø ø ø ø hne=>absurd rfl hne⟩
 |k+1=>⟨λsc e X A l s env ρ H=>yq O (pG O hC k) ((iy O hC k).mono (bk n 4)) (hC.mono (bk n 4)) (λø=>GF O (pG O hC k) (iy O hC k)) H e,λsc e X A l s env ρ H=>xX (pG O hC k) (hC.mono (bk n 4)) H e⟩
end
end
section
structure Blk(K:Addr->Obj->Prop)(g:Bool)(W:Wd)(X:Addr->Prop)(C:Addr)(A:aA)(l:List av)(sf:ah)(sc:Scope)(env:av):Prop where
 O:aZ W
 inv:Inv W sf
 frames:A.frames=some l
 guards:A.guards=some []
 handled:A.handled=none
 below:∀e∈l,e.scope.kind≠ .module/\ ∃L,e.frame=some L/\ W.base.get? L=none/\ X L/\ (L=C \/∃m,sf.heap.Ns L m)
 xtabs:∀q∈W.tabs,X q.2
 xbase:∀b o,W.base.get? b=some o->¬X b
 new:sf.heap.get? C=none
 XC:X C
 kp:∀b o,K b o->(¬X b \/dh o)/\ b≠C
 envk:jF g W sc env
 locals:env.locals=C
 top:∃outer,l=env::outer
 frm:env.frame=some C
structure a7(K:Addr->Obj->Prop)(W:Wd)(X:Addr->Prop)(C:Addr)(sf:ah)(sc:Scope)(s:ah)(ρ:aj):Prop where
 M:be W X C sf s
 loc:m8 W X s.heap C ρ
 kinds:pe sc ρ
 lives:∀b,X b->∃o,s.heap.get? b=some o
 kept:∀b o,K b o->s.heap.get? b=some o
structure Base(W:Wd)(X:Addr->Prop)(l:List av)(sf:ah)(B:Heap):Prop where
 keep:∀b o,¬X b->sf.heap.get? b=some o->B.get? b=some o
 live:∀b o,sf.heap.get? b=some o->(∃o',B.get? b=some o') \/b∈l.filterMap (·.frame)
 solid:∀b o,dh o->sf.heap.get? b=some o->B.get? b=some o
 stays:W.base.StaysIn B
 tabs:lM W B
structure eH(K:Addr->Obj->Prop)(W:Wd)(X:Addr->Prop)(l:List av)(C:Addr)(sf:ah)(sc:Scope)(e:Addr)(c:XC)(ρ:aj)(s:ah):Prop where
 M:be W X C sf s
 kinds:pe sc ρ
 fly:∃B a0 m,Base W X l sf B/\ vI B l e (W.excA c) a0 s.heap/\ s.heap.Ns C m/\ (∀x p,ρ.lookup x=some p->∃v,m x=some v/\ Rep W X B v p)/\ (∀b,X b->(∃o,B.get? b=some o) \/b∈l.filterMap (·.frame))/\ ∀b o,K b o->B.get? b=some o
structure nt(W:Wd)(X:Addr->Prop)(l:List av)(C:Addr)(sf:ah)(e:Addr)(c:XC)(s:ah):Prop where
 M:be W X C sf s
 fly:∃B a0,Base W X l sf B/\ Heap.HeldW B l e (W.excA c) a0 C s.heap
structure cL(K:Addr->Obj->Prop)(W:Wd)(X:Addr->Prop)(C:Addr)(l:List av)(sf:ah)(sc:Scope)(r:aB)(Q:cJ->ah->Prop)(E:ae->ah->Prop):Prop where
 next:∀ρ s,r= .next ρ->a7 K W X C sf sc s ρ->Q .next s
 brk:∀ρ s,r= .brk ρ->a7 K W X C sf sc s ρ->Q .brk s
 ret:∀v p s,r= .ret p->be W X C sf s->Rep W X s.heap v p->Q (.ret v) s
 exc:∀e c ρ s,r= .exc c ρ->eH K W X l C sf sc e c ρ s->E (.ref e) s
 rais:∀e c ρ s₁ h' tk x t,r= .rais c ρ->a7 K W X C sf sc s₁ ρ->wb s₁.heap h' e (W.excA c) [.str x t]->E (.ref e) {s₁ with heap:=h',toks:=tk}
 held:∀e c s,r= .held c->nt W X l C sf e c s->E (.ref e) s
section
variable{K:Addr->Obj->Prop}{g:Bool}{W:Wd}{X:Addr->Prop}{C:Addr}{A:aA}{l:List av}{sf s:ah}{sc:Scope}{env:av}{ρ:aj}{n:Nat}
theorem Blk.tabs(B:Blk K g W X C A l sf sc env):∀q∈W.tabs,∃o,sf.heap.get? q.2=some o:=λq hq=>by
 refine bA (B.inv.tabs q hq) λps ø ø k=> ?_
 exact⟨_,k⟩
theorem Blk.ready(B:Blk K g W X C A l sf sc env)(a:a7 K W X C sf sc s ρ):Ready W X A l s where
 inv:=a.M.inv
 frames:=B.frames
 guards:=B.guards
 handled:=B.handled
 below:=λe he=>by
  refine Dz (B.below e he) λk L e1 e2 e3 e4=> ?_
  rcases e4 with q|⟨m,hm⟩
  ·subst q
   refine dJ a.loc λø m hm ø=> ?_
   exact⟨k,L,m,e1,e2,hm,e3⟩
  ·refine⟨k,L,m,e1,e2,a.M.ns L m (λq=> ?_) hm,e3⟩
   refine dc hm λo ø ø e' ø=> ?_
   rw[q,B.new]at e';cases e'
 xtabs:=B.xtabs
 xbase:=B.xbase
 xlt:=a.lives
theorem Blk.here(B:Blk K g W X C A l sf sc env)(a:a7 K W X C sf sc s ρ):Here g W X A l s sc env ρ:=
 ⟨B.ready a,B.envk,by rw[B.locals];exact a.loc,a.kinds⟩
theorem a7.after'{s₁:ah}(a:a7 K W X C sf sc s ρ)(af:After W X s s₁)(hk:∀b o,K b o->¬X b \/dh o):a7 K W X C sf sc s₁ ρ:=⟨a.M.after af,a.loc.after af,a.kinds,λb hb=>by obtain⟨o,e⟩:=a.lives b hb;exact af.live b o e,λb o k=>(hk b o k).elim (λh=>af.keep b o h (a.kept b o k)) λh=>af.solid b o h (a.kept b o k)⟩
theorem a7.flies{e:Addr}{c:XC}{s':ah}(a:a7 K W X C sf sc s ρ)(hk:∀b o,K b o->¬X b \/dh o)(fl:f0 W X l e c s s'):eH K W X l C sf sc e c ρ s':=by
 refine⟨a.M.after fl.after,a.kinds,?_⟩
 obtain⟨zn1,h5,h6,h8,h9⟩:=fl
 refine mK zn1 λB a0 h1 h12 hs h2 h3 h4=> ?_
 refine dJ a.loc λø m hn hv=> ?_
 refine⟨B,a0,m,⟨λb o nx e=>h1 b o nx (a.M.keep b o nx e),λb o e=> ?_,λb o t e=>hs b o t (a.M.solid b o t e),h2,h3⟩,h4,h5 _ _ hn,λx p e=> ?_,λb hb=>by obtain⟨o,e⟩:=a.lives b hb;exact h12 b o e,λb o k=>(hk b o k).elim (λh=>h1 b o h (a.kept b o k)) λh=>hs b o h (a.kept b o k)⟩
 ·refine xE (a.M.live b o e) λo' e' => ?_
  exact h12 b o' e'
 ·refine ay (hv x p e) λv e1 e2=> ?_
  exact⟨v,e1,e2.mono h1 λø ø ø n=>n⟩
theorem SC.sstep{γ β:Type}{R:Heap->γ->β->Prop}{r1:Res β}{f:β->aB}{t1:Sem γ}(h1:SC W X l R n A t1 s r1)(a:a7 K W X C sf sc s ρ)(hk:∀b o,K b o->¬X b \/dh o)(hne:aW r1 ρ f≠ .stuck)(hd:A.depth+n<=900)(hu:A.units+10*n<=9000)
  {Q:cJ->ah->Prop} {E:ae->ah->Prop} (F:cL K W X C l sf sc (aW r1 ρ f) Q E) {K':γ->ah->Prop}
  (hK:∀v p s₁,r1= .ok p->After W X s s₁->a7 K W X C sf sc s₁ ρ->R s₁.heap v p->f p≠ .stuck->cL K W X C l sf sc (f p) Q E->K' v s₁):wpAny W.M A t1 K' E s:=by
 refine h1 (λe=>hne (by rw[e];rfl)) hd hu K' E ⟨λv p s' e af q=> ?_,λe c s' h fl=> ?_⟩
 ·subst e
  exact hK v p s' rfl af (a.after' af hk) q hne F
 ·subst h
  exact F.exc e c ρ s' rfl (a.flies hk fl)
theorem f9(x:Str)(v:PV):∀(ρ:aj) (y:Str),(aP x v ρ).lookup y=if y=x then some v else ρ.lookup y
 |[],y=>by
  rw[aP,ca]
  by_cases h:y=x
  ·subst h;simp
  ·have:(y==x)=false:=gq h
   rw[this,if_neg h]
 |(z,w)::r,y=>by
  rw[aP]
  by_cases hz:z=x
  ·rw[if_pos hz,ca,ca]
   subst hz
   by_cases h:y=z
   ·subst h;simp
   ·have:(y==z)=false:=gq h
    rw[this,if_neg h]
  ·rw[if_neg hz,ca,ca]
   by_cases h:y=z
   ·subst h;rw[beq_self_eq_true,if_neg hz]
   ·have:(y==z)=false:=gq h
    rw[this]
    exact f9 x v r y
theorem Blk.sol(B:Blk K g W X C A l sf sc env):∀b o,K b o->¬X b \/dh o:=λb o k=>(B.kp b o k).1
theorem i0{A':aA}(B:Blk K g W X C A l sf sc env)(a:a7 K W X C sf sc s ρ){x:Str}{v:ae}{p:PV}(hl:bQ sc x=true)(r:Rep W X s.heap v p){Q:Unit->ah->Prop}{E:ae->ah->Prop}
  (h:∀s',a7 K W X C sf sc s' (aP x p ρ)->(∀b o,b≠C->s.heap.get? b=some o->s'.heap.get? b=some o)->Q () s'):wpAny W.M A' (storeName env x v) Q E s:=by
 refine dJ a.loc λø m hn hv=> ?_
 have hp:(env.scope.kind== .class||(env.scope.kind== .module&&env.locals !=env.globals))=false:=by rw[B.envk.scope];rfl
 refine lm (B.envk.names x .local (cG hl) (by decide) (by decide)) (by rw[B.locals];exact hn) (λh' hn' hs' => ?_) hp
 rw[B.locals]at hn' hs'
 have up:∀b o,¬X b->s.heap.get? b=some o->h'.get? b=some o:=λb o nx e=>hs'.extBut b o (λq=>nx (q▸B.XC)) e
 refine h _ ⟨a.M.chg (tk:=s.toks+1) B.inv B.new hs'.extBut (.inl rfl) B.tabs,⟨B.XC,_,hn',λy q e=> ?_⟩,λy q e=> ?_,λb hb=> ?_,λb o k=>hs'.extBut b o (B.kp b o k).2 (a.kept b o k)⟩ λb o ne e=>hs'.extBut b o ne e
 ·rw[f9]at e
  by_cases h:y=x
  ·rw[if_pos h]at e;obtain rfl:=aq e
   exact⟨v,if_pos h,r.mono up λø ø ø nx=>nx⟩
  ·rw[if_neg h]at e
   refine ay (hv y q e) λw e1 e2=> ?_
   exact⟨w,(if_neg h).trans e1,e2.mono up λø ø ø nx=>nx⟩
 ·rw[f9]at e
  by_cases h:y=x
  ·rw[h];exact cG hl
  ·rw[if_neg h]at e;exact a.kinds y q e
 ·by_cases h:b=C
  ·subst h
   refine dc hn' λo ø ø e ø=> ?_
   exact⟨o,e⟩
  ·refine xE (a.lives b hb) λo e=> ?_
   exact⟨o,hs'.extBut b o h e⟩
end
end
section
noncomputable def fu(g:Bool)(W:Wd)(n:Nat)(ex:Scope->aC->aj->aB):Prop:=
 ∀K sc st X C A l sf env ρ s,Blk K g W X C A l sf sc env->a7 K W X C sf sc s ρ->ex sc st ρ≠ .stuck->A.depth+n<=900->A.units+10*n<=9000->∀Q E,cL K W X C l sf sc (ex sc st ρ) Q E->wpAny W.M A (exec st env) Q E s
section
variable{K:Addr->Obj->Prop}{g:Bool}{W:Wd}{X:Addr->Prop}{C:Addr}{A:aA}{l:List av}{sf s:ah}{sc:Scope}{env:av}{ρ:aj}{n:Nat}{E₀:Ev}{ex:Scope->aC->aj->aB}
theorem a7.self(a:a7 K W X C sf sc s ρ):be W X C sf s:=a.M
theorem kF(hX:fu g W n ex)(B:Blk K g W X C A l sf sc env)(hd:A.depth+n<=900)(hu:A.units+10*n<=9000):∀(sts:List aC) (ρ:aj) (s:ah),a7 K W X C sf sc s ρ->aw (ex sc) sts ρ≠ .stuck->∀Q E,cL K W X C l sf sc (aw (ex sc) sts ρ) Q E->wpAny W.M A (execs sts env) Q E s
 |[],ρ,s,a,hne,Q,E,F=>dQ (F.next ρ s rfl a)
 |st::r,ρ,s,a,hne,Q,E,F=>by
  refine bT ?_
  unfold aw at hne F
  refine hX K sc st X C A l sf env ρ s B a (λq=>hne (by rw[q])) hd hu _ _ ⟨?_,?_,?_,?_,?_,?_⟩
  ·intro ρ' s' e a'
   rw[e]at hne F
   exact kF hX B hd hu r ρ' s' a' hne Q E F
  ·intro ρ' s' e a'
   rw[e]at F
   exact F.brk ρ' s' rfl a'
  ·intro v p s' e m r'
   rw[e]at F
   exact F.ret v p s' rfl m r'
  ·intro e c ρ' s' q f
   rw[q]at F
   exact F.exc e c ρ' s' rfl f
  ·intro e c ρ' s₁ h' tk x t q a' f
   rw[q]at F
   exact F.rais e c ρ' s₁ h' tk x t rfl a' f
  ·intro e c s' q f
   rw[q]at F
   exact F.held e c s' rfl f
theorem yA(B:Blk K g W X C A l sf sc env):interactive env=false:=by
 unfold interactive;rw[B.envk.scope];rfl
theorem yB(hE:aM g W n E₀)(B:Blk K g W X C A l sf sc env)(a:a7 K W X C sf sc s ρ){x:Str}{px p:ax}{op:mx}{v:ai}{i:Int}{f:Int->Int->Int}
  (hop:∀(Q E:ae->ah->Prop) (s:ah) (a:Int) (t:bE) (b:Int) (u:bE),Q (.int (f a b) s.toks) {s with toks:=s.toks+1}->wpAny W.M A (inplaceOp op (.int a t) (.int b u)) Q E s)
  (hb:∀b z,bH op (.int i) b=some z->∃j,b= .int j/\ z= .int (f i j))
  (hx:ρ.lookup x=some (.int i)) (hne:(aW (E₀.ev sc v ρ) ρ λb=>aW (aE (bH op (.int i) b)) ρ λr=> .next (aP x r ρ))≠ .stuck) (hd:A.depth+n<=900) (hu:A.units+10*n<=9000) {Q:cJ->ah->Prop} {E:ae->ah->Prop}
  (F:cL K W X C l sf sc (aW (E₀.ev sc v ρ) ρ λb=>aW (aE (bH op (.int i) b)) ρ λr=> .next (aP x r ρ)) Q E):wpAny W.M A (exec (.AugAssign (.Name x px) op v p) env) Q E s:=by
 have hl:bQ sc x=true:=by unfold bQ;rw[a.kinds x _ hx];rfl
 refine dJ a.loc λø m hn hv=> ?_
 refine ay (hv x _ hx) λvx e1 r1=> ?_
 refine wpAny_AugAssign_Name (dI B.envk.scope (B.envk.names x .local (a.kinds x _ hx) (by decide) (by decide)) (by rw[B.locals];exact hn) e1 ?_)
 refine(hE.1 sc v X A l s env ρ (B.here a)).sstep a B.sol hne hd hu F λvb b s₁ ø af a₁ rb ne1 F1=> ?_
 cases hz:bH op (.int i) b with
 |none=>rw[hz]at ne1;exact absurd rfl ne1
 |some z=>
  rw[hz]at F1
  refine ay (hb b z hz) λj zq1 zq2=> ?_;subst zq1 zq2
  refine xE r1.intI λt zq1=> ?_;subst zq1
  refine xE rb.intI λu zq1=> ?_;subst zq1
  refine hop _ _ _ _ _ _ _ ?_
  exact i0 B (a₁.after' (After.tok (tk:=s₁.toks+1) a₁.M.inv) B.sol) hl (.int _ _) λs₃ a₃ ø=>F1.next _ s₃ rfl a₃
theorem GG(hE:aM g W n E₀)(B:Blk K g W X C A l sf sc env)(a:a7 K W X C sf sc s ρ){x:Str}{px p:ax}{v:ai}(hl:bQ sc x=true)(hv:kv v=true)
  (hne:(aW (E₀.ev sc v ρ) ρ λa=> .next (aP x a ρ))≠ .stuck) (hd:A.depth+n<=900) (hu:A.units+10*n<=9000) {Q:cJ->ah->Prop} {E:ae->ah->Prop}
  (F:cL K W X C l sf sc (aW (E₀.ev sc v ρ) ρ λa=> .next (aP x a ρ)) Q E):wpAny W.M A (exec (.Assign [.Name x px] v p) env) Q E s:=by
 have hs:swapsWith v (some (.Name x px)) p.line env=pure false:=by
  cases v<;>first|rfl|exact bV hv
 refine ik (hs:=hs) ((hE.1 sc v X A l s env ρ (B.here a)).sstep a B.sol hne hd hu F λvb b s₁ ø af a₁ rb ne1 F1=> ?_)
 exact i0 B a₁ hl rb λs₃ a₃ ø=>F1.next _ s₃ rfl a₃
theorem GH(hE:aM g W n E₀)(B:Blk K g W X C A l sf sc env)(a:a7 K W X C sf sc s ρ){p:ax}{v:ai}
  (hne:(aW (E₀.ev sc v ρ) ρ λv=> .ret v)≠ .stuck) (hd:A.depth+n<=900) (hu:A.units+10*n<=9000) {Q:cJ->ah->Prop} {E:ae->ah->Prop}
  (F:cL K W X C l sf sc (aW (E₀.ev sc v ρ) ρ λv=> .ret v) Q E):wpAny W.M A (exec (.Return (some v) p) env) Q E s:=
 il ((hE.1 sc v X A l s env ρ (B.here a)).sstep a B.sol hne hd hu F λvb b s₁ ø af a₁ rb ne1 F1=>F1.ret vb b s₁ rfl a₁.M rb)
theorem GI(hE:aM g W n E₀)(hX:fu g W n ex)(B:Blk K g W X C A l sf sc env)(a:a7 K W X C sf sc s ρ){p:ax}{t:ai}{b o:List aC}
  (hne:(aW (E₀.tst sc t ρ) ρ λc=>if c then aw (ex sc) b ρ else aw (ex sc) o ρ)≠ .stuck) (hd:A.depth+n<=900) (hu:A.units+10*n<=9000) {Q:cJ->ah->Prop} {E:ae->ah->Prop}
  (F:cL K W X C l sf sc (aW (E₀.tst sc t ρ) ρ λc=>if c then aw (ex sc) b ρ else aw (ex sc) o ρ) Q E):wpAny W.M A (exec (.If t b o p) env) Q E s:=by
 refine jq ((hE.2 sc t X A l s env ρ (B.here a)).sstep a B.sol hne hd hu F λvb c s₁ ø af a₁ rb ne1 F1=> ?_)
 subst rb
 cases vb with
 |true=>exact kF hX B hd hu b ρ s₁ a₁ ne1 Q E F1
 |false=>exact kF hX B hd hu o ρ s₁ a₁ ne1 Q E F1
theorem GJ(hE:aM g W n E₀)(hX:fu g W n ex)(B:Blk K g W X C A l sf sc env){p:ax}{t:ai}{b:List aC}(hd:A.depth+n<=900)(hu:A.units+10*n<=9000){Q:cJ->ah->Prop}{E:ae->ah->Prop}
  (fuel:Nat) (a:a7 K W X C sf sc s ρ) (hne:dz (E₀.tst sc t) (aw (ex sc) b) fuel ρ≠ .stuck) (F:cL K W X C l sf sc (dz (E₀.tst sc t) (aw (ex sc) b) fuel ρ) Q E):wpAny W.M A (exec (.While t b [] p) env) Q E s:=by
 refine wpAny_While (codeAny_whileLoop (λk s' =>∃ρ',a7 K W X C sf sc s' ρ'/\ dz (E₀.tst sc t) (aw (ex sc) b) k ρ'≠ .stuck/\ cL K W X C l sf sc (dz (E₀.tst sc t) (aw (ex sc) b) k ρ') Q E) ?_ fuel ⟨ρ,a,hne,F⟩)
 intro k s' zn1
 refine bA zn1 λρ' a' hne' F' => ?_
 cases k with
 |zero=>exact absurd rfl hne'
 |succ k=>
  unfold dz at hne' F'
  cases ht:E₀.tst sc t ρ' with
  |stuck=>rw[ht]at hne';exact absurd rfl hne'
  |exc c=>rw[ht]at hne';exact absurd rfl hne'
  |ok c=>
   rw[ht]at hne' F'
   refine hE.2 sc t X A l s' env ρ' (B.here a') (by rw[ht];exact λq=>nomatch q) hd hu _ _ ⟨λv q s₁ e1 af r=> ?_,λe' c' s₁ e1 ø=>by rw[ht]at e1;cases e1⟩
   rw[ht]at e1
   obtain rfl:=de e1
   cases r
   have a₁:=a'.after' af B.sol
   cases c with
   |false=>
    rw[if_neg (by decide)]
    exact dQ (F'.next ρ' s₁ rfl a₁)
   |true=>
    rw[if_pos rfl]
    dsimp only at hne' F'
    refine kF hX B hd hu b ρ' s₁ a₁ (λq=>hne' (by rw[q])) _ _ ⟨?_,?_,?_,?_,?_,?_⟩
    ·intro ρ2 s₂ e a₂
     rw[e]at hne' F'
     exact⟨k,gh k,ρ2,a₂,hne',F'⟩
    ·intro ρ2 s₂ e a₂
     rw[e]at F'
     exact F'.next ρ2 s₂ rfl a₂
    ·intro v p s₂ e m r'
     rw[e]at F'
     exact F'.ret v p s₂ rfl m r'
    ·intro e c ρ2 s₂ q
     rw[q]at hne';exact absurd rfl hne'
    ·intro e c ρ2 s₂ h' tk x t q
     rw[q]at hne';exact absurd rfl hne'
    ·intro e c s₂ q
     rw[q]at hne';exact absurd rfl hne'
end
end
section
section
variable{K:Addr->Obj->Prop}{g:Bool}{W:Wd}{X X1:Addr->Prop}{C:Addr}{A:aA}{l:List av}{sf s:ah}{sc:Scope}{env:av}{ρ:aj}{n:Nat}{E₀:Ev}{ex:Scope->aC->aj->aB}
theorem Blk.wide(B:Blk K g W X C A l sf sc env){I:Addr}(hI:sf.heap.get? I=none)(hKI:∀b o,K b o->b≠I):Blk K g W (λb=>X b \/b=I) C A l sf sc env where
 O:=B.O
 inv:=B.inv
 frames:=B.frames
 guards:=B.guards
 handled:=B.handled
 below:=λe he=>by obtain⟨k,L,e1,e2,e3,e4⟩:=B.below e he;exact⟨k,L,e1,e2, .inl e3,e4⟩
 xtabs:=λq hq=> .inl (B.xtabs q hq)
 xbase:=λb o e h=>by
  refine ck (h) (λh=> ?_) (λh=> ?_)
  ·exact B.xbase b o e h
  ·have:=B.inv.stays b o e;rw[h,hI]at this;exact al this
 new:=B.new
 XC:= .inl B.XC
 kp:=λb o k=>⟨(B.kp b o k).1.elim (λh=> .inl λq=>q.elim h (hKI b o k)) .inr,(B.kp b o k).2⟩
 envk:=B.envk
 locals:=B.locals
 top:=B.top
 frm:=B.frm
theorem a7.wide{I:Addr}{o:Obj}{h':Heap}{tk:Nat}(B:Blk K g W X C A l sf sc env)(a:a7 K W X C sf sc s ρ)(hI:s.heap.get? I=none)(k:∀b o,s.heap.get? b=some o->h'.get? b=some o)(hn:h'.get? I=some o):a7 K W (λb=>X b \/b=I) C sf sc {s with heap:=h',toks:=tk} ρ:=by
 have af:After W X s {s with heap:=h',toks:=tk}:=After.of_keeps a.M.inv k
 have a':=a.after' af B.sol
 refine⟨a'.M.weaken λb o e nx q=>nx (.inl q),⟨.inl B.XC,?_⟩,a.kinds,λb hb=> ?_,a'.kept⟩
 ·refine dJ a.loc λø m hm hv=> ?_
  refine⟨m,hm.keeps k,λx p e=> ?_⟩
  refine ay (hv x p e) λv e1 e2=> ?_
  exact⟨v,e1,e2.mono (λb o ø e=>k b o e) λb o e nx q=>by
   refine ck (q) (λq=> ?_) (λq=> ?_)
   ·exact nx q
   ·rw[q,hI]at e;cases e⟩
 ·refine ck (hb) (λq=> ?_) (λq=> ?_)
  ·exact a'.lives b q
  ·subst q;exact⟨o,hn⟩
theorem be.narrow{I:Addr}{s':ah}(m:be W (λb=>X b \/b=I) C sf s')(hI:sf.heap.get? I=none):be W X C sf s':=m.weaken λb o e nx q=>by
 rcases q with q|q
 ·exact nx q
 ·rw[q,hI]at e;exact al e
theorem Rep.narrow{I:Addr}{h:Heap}{v:ae}{p:PV}(r:Rep W (λb=>X b \/b=I) h v p):Rep W X h v p:=r.mono (λø ø ø e=>e) λb o e nx q=>nx (.inl q)
theorem a7.narrow{I:Addr}(a:a7 K W (λb=>X b \/b=I) C sf sc s ρ)(B:Blk K g W X C A l sf sc env)(hI:sf.heap.get? I=none):a7 K W X C sf sc s ρ:=by
 refine⟨a.M.narrow hI,⟨B.XC,?_⟩,a.kinds,λb hb=>a.lives b (.inl hb),a.kept⟩
 refine dJ a.loc λø m hm hv=> ?_
 exact⟨m,hm,λx p e=>by obtain⟨v,e1,e2⟩:=hv x p e;exact⟨v,e1,e2.narrow⟩⟩
theorem Base.narrow{I:Addr}{Bh:Heap}(b:Base W (λb=>X b \/b=I) l sf Bh)(hI:sf.heap.get? I=none):Base W X l sf Bh:=
 ⟨λa o nx e=>b.keep a o (λq=>by
  refine ck (q) (λq=> ?_) (λq=> ?_)
  ·exact nx q
  ·rw[q,hI]at e;exact al e) e,b.live,b.solid,b.stays,b.tabs⟩
theorem eH.narrow{I e:Addr}{c:XC}(f:eH K W (λb=>X b \/b=I) l C sf sc e c ρ s)(hI:sf.heap.get? I=none):eH K W X l C sf sc e c ρ s:=by
 obtain⟨M,k,B,a0,m,b,fl,hn,hv,lv,kp⟩:=f
 exact⟨M.narrow hI,k,B,a0,m,b.narrow hI,fl,hn,λx p e=>by obtain⟨v,e1,e2⟩:=hv x p e;exact⟨v,e1,e2.narrow⟩,λb hb=>lv b (.inl hb),kp⟩
theorem GK(B:Blk K g W X C A l sf sc env){outer:List av}(hl:l=env::outer)(hf:env.frame=some C){e:Addr}{c:XC}{K':Addr->Obj->Prop}(f:eH K' W X l C sf sc e c ρ s){Q:Unit->ah->Prop}{E:ae->ah->Prop}
  (h:∀s',nt W X l C sf e c s'->Q () s'):wpAny W.M A (noteFrame (.ref e) env) Q E s:=by
 obtain⟨M,k,Bh,a0,m,b,fl,hn,hv,lv⟩:=f
 subst hl
 refine wpAny_looks_onW B.frames hf fl λh' hh up=>h _ ⟨?_,Bh,a0,b,hh⟩
 refine⟨⟨λb' o e=>hh.1 b' o (b.stays b' o e),b.tabs.keeps hh.1,M.inv.gens⟩,λb' o nx e=>hh.1 b' o (b.keep b' o nx e),λL f hL e=>up.ns (M.ns L f hL e),M.gens,M.os,M.drawn,λb' o e=> ?_,λb' o t e=>hh.1 b' o (b.solid b' o t e)⟩
 rcases b.live b' o e with ⟨o',e'⟩|hm
 ·exact⟨o',hh.1 _ _ e'⟩
 ·refine dJ (hh.2.2.1.mem hm) λø o' e' ø=> ?_
  exact⟨o',e'⟩
end
end
section
section
variable{K:Addr->Obj->Prop}{g:Bool}{W:Wd}{X X1:Addr->Prop}{C:Addr}{A:aA}{l:List av}{sf s:ah}{sc:Scope}{env:av}{ρ:aj}{n:Nat}{E₀:Ev}{ex:Scope->aC->aj->aB}
noncomputable def Xo(X:Addr->Prop)(I:Addr):Addr->Prop:=λb=>X b \/b=I
inductive yC(K:Addr->Obj->Prop)(W:Wd)(X:Addr->Prop)(C:Addr)(l:List av)(sf:ah)(sc:Scope)(P:aj->aB)(x:Str)(items:List PV)(St:Nat->Heap->Prop)(s₁:ah)(Q:cJ->ah->Prop)(E:ae->ah->Prop)(k:Nat)(s':ah):Prop
 |mk (i:Nat) (ρ':aj):k=items.length+1-i->i<=items.length->a7 K W (Xo X s₁.heap.objs.size) C sf sc s' ρ'->St i s'.heap->(∀b o',s₁.heap.get? b=some o'->¬X b->s'.heap.get? b=some o')->cX P x (items.drop i) ρ'≠ .stuck->cL K W X C l sf sc (cX P x (items.drop i) ρ') Q E->yC K W X C l sf sc P x items St s₁ Q E k s'
theorem GL{Bh h':Heap}{tk:Nat}(M:be W X C sf s)(b:Base W X l sf Bh)(st:Bh.StaysIn h')(fr:h'.FunFrames Bh l)(ns:∀L m,s.heap.Ns L m->h'.Ns L m):be W X C sf {s with heap:=h',toks:=tk}:=by
 refine⟨⟨λb' o e=>st b' o (b.stays b' o e),b.tabs.keeps st,M.inv.gens⟩,λb' o nx e=>st b' o (b.keep b' o nx e),λL f hL e=>ns L f (M.ns L f hL e),M.gens,M.os,M.drawn,λb' o e=> ?_,λb' o t e=>st b' o (b.solid b' o t e)⟩
 rcases b.live b' o e with ⟨o',e'⟩|hm
 ·exact⟨o',st _ _ e'⟩
 ·refine dJ (fr.mem hm) λø o' e' ø=> ?_
  exact⟨o',e'⟩
theorem GN(hf:env.frame=some C){e:Addr}{c:XC}(f:nt W X l C sf e c s){E:ae->ah->Prop}(h:∀s',nt W X l C sf e c s'->E (.ref e) s'):cameBackBy W.M A env E (.ref e) s:=by
 obtain⟨M,Bh,a0,b,hkb,hen,hl,ht⟩:=f
 refine DD ht λoe vs T oT ts he hcls hd h1 hnT hTe hT hdT h3=> ?_
 have hsz3:3<ts.size:=(Array.getElem?_eq_some_iff.mp h3).1
 have other:∀b,b≠T->(s.heap.update T (Di (·.setIfInBounds 3 (rawInt C)))).get? b=s.heap.get? b:=λb hb=>v7 _ _ (cH hb)
 have noRecord:∀b o,s.heap.get? b=some o->(∀vs,o.data≠ .fields vs)->b≠T:=λb o hb hnf q=>by
  rw[q,hT]at hb;injection hb with hb;subst hb;exact hnf ts hdT
 unfold cameBackBy
 refine aJ (rn he hd h1 ?_)
 rw[if_neg (show¬((rF T==j')=true)from by simp)]
 rw[hf]
 have fin:wpAny W.M A (setFlight (.ref e) (some C)) (λø s'' =>E (.ref e) s'') E s:=by
  unfold setFlight
  refine aJ (rn he hd h1 ?_)
  rw[if_pos (show(rF T !=j')=true from by simp)]
  refine wpAny_setField hT hdT hsz3 ?_
  have st:Bh.StaysIn (s.heap.update T (Di (·.setIfInBounds 3 (rawInt C)))):=λb o hbo=>(other b λq=>by rw[q,hnT]at hbo;exact al hbo).trans (hkb b o hbo)
  have fr:(s.heap.update T (Di (·.setIfInBounds 3 (rawInt C)))).FunFrames Bh l:=hl.of_keeps λb o hb hnf=>⟨o,(other b (noRecord b o hb hnf)).trans hb,rfl⟩
  refine h _ ⟨GL M b st fr λL m hn=>hn.at' λo e' =>(other L (λq=>by
   rw[q]at hn
   exact kB hT (by rw[hdT];intro ø ø q;cases q) _ hn)).trans e',Bh,a0,b,st,hen,fr,?_⟩
  exact⟨oe,vs,T,_,_,(other e (cH hTe)).trans he,hcls,hd,h1,hnT,hTe,v6 _ hT (Obj.isFreed_of_fields (Obj.data_mapFields hdT _)),Obj.data_mapFields hdT _,by simp[hsz3]⟩
 first
  |exact fin
  |exact aJ (bj fin)
theorem GO(hE:aM g W n E₀)(hX:fu g W n ex)(B:Blk K g W X C A l sf sc env)(a:a7 K W X C sf sc s ρ){x:Str}{px p:ax}{it:ai}{b:List aC}(hx:bQ sc x=true)(hset:cQ it=true)
  (hne:(aW (b4 (E₀.ev sc it ρ)) ρ λv=>aW (aE (bP v)) ρ λitems=>cX (aw (ex sc) b) x items ρ)≠ .stuck) (hd:A.depth+n<=900) (hu:A.units+10*n<=9000) {Q:cJ->ah->Prop} {E:ae->ah->Prop}
  (F:cL K W X C l sf sc (aW (b4 (E₀.ev sc it ρ)) ρ λv=>aW (aE (bP v)) ρ λitems=>cX (aw (ex sc) b) x items ρ) Q E):wpAny W.M A (exec (.For (.Name x px) it b [] p) env) Q E s:=by
 refine xE B.top λouter hl=> ?_
 have hf:=B.frm
 cases hv:E₀.ev sc it ρ with
 |exc c=>rw[hv]at hne;exact absurd rfl hne
 |stuck=>rw[hv]at hne;exact absurd rfl hne
 |ok v=>
  rw[hv]at hne F
  have hne:(aW (aE (bP v)) ρ λitems=>cX (aw (ex sc) b) x items ρ)≠ .stuck:=hne
  have F:cL K W X C l sf sc (aW (aE (bP v)) ρ λitems=>cX (aw (ex sc) b) x items ρ) Q E:=F
  cases hi:bP v with
  |none=>rw[hi]at hne;exact absurd rfl hne
  |some items=>
   rw[hi]at hne F
   have hne:cX (aw (ex sc) b) x items ρ≠ .stuck:=hne
   have F:cL K W X C l sf sc (cX (aw (ex sc) b) x items ρ) Q E:=F
   refine wpAny_For (hs:=tG hset env) (hE.1 sc it X A l s env ρ (B.here a) (by rw[hv];exact λq=>nomatch q) hd hu _ _ ⟨λva q s₁ e1 a₁ r₁=> ?_,λe' c s' e1 ø=>by rw[hv]at e1;cases e1⟩)
   rw[hv]at e1
   obtain rfl:=de e1
   have at₁:=a.after' a₁ B.sol
   refine pC hi r₁ λo fp P St so It=> ?_
   have nI:s₁.heap.get? s₁.heap.objs.size=none:=dP (bO _)
   have sI:sf.heap.get? s₁.heap.objs.size=none:=by
    cases q:sf.heap.get? s₁.heap.objs.size with
    |none=>rfl
    |some o' =>obtain⟨o'',e⟩:=at₁.M.live _ _ q;rw[nI]at e;exact al e
   refine bA (It.own 0 _ It.start) λoI0 eI0 ø ø=> ?_
   have at₂:a7 K W (Xo X s₁.heap.objs.size) C sf sc {s₁ with heap:=s₁.heap.push o,toks:=s₁.toks} ρ:=a7.wide B at₁ nI (λb o' e=>bX _ e) eI0
   obtain⟨mC,eC⟩:∃m,s₁.heap.Ns C m:=let ⟨_,m,hm,_⟩:=at₁.loc
   ⟨m,hm⟩
   have hCI:C≠s₁.heap.objs.size:=λq=>by obtain⟨o',_,_,e,_⟩:=eC;rw[q,nI]at e;exact al e
   have Wk:=It.walks A B.handled
   have kI:∀b o',K b o'->b≠s₁.heap.objs.size:=λb o' k q=>by have:=at₁.kept b o' k;rw[q,nI]at this;exact al this
   have B₂:=B.wide sI kI
   refine codeAny_forLoop (yC K W X C l sf sc (aw (ex sc) b) x items St s₁ Q E)
    ?_ (items.length+1) ⟨0,ρ,rfl,dZ _,at₂,It.start,λb o' e ø=>bX _ e,hne,F⟩
   intro k s' zn1
   obtain⟨i,ρ',rfl,hi',a',st',keep,hne',F'⟩:=zn1
   refine bA (It.own _ _ st') λoI eI slI nsI=> ?_
   by_cases hlt:i<items.length
   ·refine Wk.item i s' _ _ hlt st' λv h₁ tk1 hP st₁ k₁=> ?_
    refine ay (It.vals i v hP) λpv hpv rpv=> ?_
    have ext1:eP s₁.heap.objs.size s'.heap h₁:=gD k₁
    refine bA (It.own _ _ st₁) λoI1 eI1 slI1 nsI1=> ?_
    have at3:a7 K W (Xo X s₁.heap.objs.size) C sf sc {s' with heap:=h₁,toks:=tk1} ρ':=by
     refine⟨a'.M.chg B.inv sI ext1 (.inr nsI) B.tabs,⟨.inl B.XC,?_⟩,a'.kinds,λb hb=> ?_,λb o' k=>ext1 b o' (kI b o' k) (a'.kept b o' k)⟩
     ·refine dJ a'.loc λø m hm hv' => ?_
      refine⟨m,hm.at' λo' e=>ext1 C o' hCI e,λy q e=> ?_⟩
      refine ay (hv' y q e) λw e1 e2=> ?_
      exact⟨w,e1,e2.mono (λb o' nx e=>ext1 b o' (λq=>nx (.inr q)) e) λø ø ø nx=>nx⟩
     ·by_cases q:b=s₁.heap.objs.size
      ·exact⟨oI1,q▸eI1⟩
      ·refine xE (a'.lives b hb) λo' e=> ?_
       exact⟨o',ext1 b o' q e⟩
    have keep1:∀b o',s₁.heap.get? b=some o'->¬X b->h₁.get? b=some o':=λb o' e nx=>ext1 b o' (λq=>by rw[q,nI]at e;exact al e) (keep b o' e nx)
    have rep1:Rep W (Xo X s₁.heap.objs.size) h₁ v pv:=rpv.mono (λb o' nx e=>keep1 b o' e nx) λb o' e nx q=>by
     refine ck (q) (λq=> ?_) (λq=> ?_)
     ·exact nx q
     ·rw[q,nI]at e;exact al e
    have hdrop:items.drop i=pv::items.drop (i+1):=by
     rw[v4 hlt]
     rw[fQ hlt]at hpv
     obtain rfl:=aq hpv;rfl
    rw[hdrop]at hne' F'
    unfold cX at hne' F'
    refine kc (i0 B₂ at3 hx rep1 λs₄ at4 k₄=> ?_)
    have keep₄:∀b' o',s₁.heap.get? b' =some o'->¬X b'->s₄.heap.get? b' =some o':=λb' o' e nx=>k₄ b' o' (λq=>nx (q▸B.XC)) (keep1 b' o' e nx)
    have st₄:St (i+1) s₄.heap:=Wk.frame _ _ _ st₁ λb' hb' o' e=>k₄ b' o' (λz=>by
     rcases It.fps b' hb' with q|⟨o'',q,nx,sl⟩
     ·exact hCI (z▸q)
     ·exact nx (z▸B.XC)) e
    refine bA (It.own _ _ st₄) λoI₄ eI₄ slI4 ø=> ?_
    let K':Addr->Obj->Prop:=λb' o' =>K b' o' \/(s₄.heap.get? b' =some o'/\ b'≠C/\ (¬(X b' \/b' =s₁.heap.objs.size) \/dh o'))
    have B₃:Blk K' g W (Xo X s₁.heap.objs.size) C A l sf sc env:=⟨B₂.O,B₂.inv,B₂.frames,B₂.guards,B₂.handled,B₂.below,B₂.xtabs,B₂.xbase,B₂.new,B₂.XC,(λb' o' k=>by
     rcases k with k|⟨e,n1,n2⟩
     ·exact B₂.kp b' o' k
     ·exact⟨n2,n1⟩),B₂.envk,B₂.locals,B₂.top,B₂.frm⟩
    have at5:a7 K' W (Xo X s₁.heap.objs.size) C sf sc s₄ (aP x pv ρ'):=⟨at4.M,at4.loc,at4.kinds,at4.lives,(λb' o' k=>by
     rcases k with k|⟨e,_,_⟩
     ·exact at4.kept b' o' k
     ·exact e)⟩
    have new:∀b' o',s₁.heap.get? b' =some o'->b'≠s₁.heap.objs.size:=λb' o' e q=>by rw[q,nI]at e;exact al e
    have back:∀{s₅:ah} {ρ5:aj},a7 K' W (Xo X s₁.heap.objs.size) C sf sc s₅ ρ5->a7 K W (Xo X s₁.heap.objs.size) C sf sc s₅ ρ5/\ St (i+1) s₅.heap/\ (∀b' o',s₁.heap.get? b' =some o'->¬X b'->s₅.heap.get? b' =some o'):=λ{s₅ ρ5} a₅=>by
     have kk:∀b' o',s₁.heap.get? b' =some o'->¬X b'->s₅.heap.get? b' =some o':=λb' o' e nx=>a₅.kept b' o' (.inr ⟨keep₄ b' o' e nx,λq=>nx (q▸B.XC), .inl λq=>q.elim nx (new b' o' e)⟩)
     refine⟨⟨a₅.M,a₅.loc,a₅.kinds,a₅.lives,λb' o' k=>a₅.kept b' o' (.inl k)⟩,Wk.frame _ _ _ st₄ λb' hb' o' e=> ?_,kk⟩
     rcases It.fps b' hb' with q|⟨o'',q,nx,sl⟩
     ·subst q
      rw[eI₄]at e;obtain rfl:=aq e
      exact a₅.kept _ _ (.inr ⟨eI₄,cH hCI, .inr slI4⟩)
     ·have e2:=keep₄ b' o'' q nx
      rw[e]at e2;obtain rfl:=aq e2
      exact kk b' _ q nx
    refine kF hX B₃ hd hu b (aP x pv ρ') s₄ at5 (λq=>hne' (by rw[q])) _ _ ⟨?_,?_,?_,?_,?_,?_⟩
    ·intro ρ5 s₅ e a₅
     rw[e]at hne' F'
     refine bL (back a₅) λx1 x2 x3=> ?_
     exact⟨items.length+1-(i+1),oW ‹_›,i+1,ρ5,rfl,hlt,x1,x2,x3,hne',F'⟩
    ·intro ρ5 s₅ e
     rw[e]at hne';exact absurd rfl hne'
    ·intro v p s₅ e m r'
     rw[e]at F'
     exact F'.ret v p s₅ rfl (m.narrow sI) r'.narrow
    ·intro e c ρ5 s₅ q f
     rw[q]at F'
     exact GK B hl hf (f.narrow sI) λs₆ h₆=>GN hf h₆ λs₇ h₇=>F'.held e c s₇ rfl h₇
    ·intro e c ρ5 s₅ h' tk x t q
     rw[q]at hne';exact absurd rfl hne'
    ·intro e c s₅ q
     rw[q]at hne';exact absurd rfl hne'
   ·have:i=items.length:=mP ‹_› ‹_›
    subst this
    refine Wk.done s' _ _ st' λh₁ tk1 k₁=> ?_
    have ext1:eP s₁.heap.objs.size s'.heap h₁:=gD k₁
    rw[List.drop_length]at F'
    refine dQ (F'.next ρ' {s' with heap:=h₁,toks:=tk1} rfl ?_)
    refine⟨(a'.M.chg (tk:=tk1) B.inv sI ext1 (.inr nsI) B.tabs).narrow sI,⟨B.XC,?_⟩,a'.kinds,λb hb=> ?_,λb o' k=>ext1 b o' (kI b o' k) (a'.kept b o' k)⟩
    ·refine dJ a'.loc λø m hm hv' => ?_
     refine⟨m,hm.at' λo' e=>ext1 C o' hCI e,λy q e=> ?_⟩
     refine ay (hv' y q e) λw e1 e2=> ?_
     exact⟨w,e1,e2.mono (λb o' nx e=>ext1 b o' (λq=>nx (.inr q)) e) λb o' e nx q=>nx (.inl q)⟩
    ·refine xE (a'.lives b (.inl hb)) λo' e=> ?_
     by_cases q:b=s₁.heap.objs.size
     ·refine xE (at₁.lives b hb) λo'' e'' => ?_
      rw[q,nI]at e'';cases e''
     ·exact⟨o',ext1 b o' q e⟩
end
end
section
theorem GP{x y:Str}{px py:ax}{env:av}(hkx:env.kindOf x=some .local)(hky:env.kindOf y=some .local)(hline:(px.line==py.line)=true)(f:ai->Option Str)
   (hf1:∀id pos,f (.Name id pos)=if env.kindOf id==some .local&&pos.line==px.line then some id else none):[jk x px,jk y py].filterMap f=[x,y]:=by
 have c1:(env.kindOf x==some NameKind.local&&px.line==px.line)=true:=by
  rw[hkx];simp
 have c2:(env.kindOf y==some NameKind.local&&py.line==px.line)=true:=by rw[hky,cG hline];simp
 rw[vY,hf1,if_pos c1,vY,hf1,if_pos c2];rfl
theorem GQ{x y:Str}{px py tp tp':ax}{k k':Nat}{ea eb:ai}{env:av}(hs:env.scope.kind= .function)(hkx:env.kindOf x=some .local)(hky:env.kindOf y=some .local)(hne:x≠y)(hline:(px.line==py.line)=true)
  (hA:(∃a b c d e f,ea= .Attribute a b c/\ eb= .Attribute d e f) \/(∃a b c d e f,ea= .Subscript a b c/\ eb= .Subscript d e f)) (h2:[ea,eb].all (foldedForSure 8)=false) (h3:[ea,eb].all (constantsAlone 8)=false):
  swappedStores [.Tuple [.Name x px, .Name y py] k tp] (.Tuple [ea,eb] k' tp') env=pure (some [x,y]):=by
 have hb:env.blockKind= .function:=by
  unfold av.blockKind;rw[hs];rfl
 have ed:[x,y].eraseDups.length=2:=by
  have hyx:(y==x)=false:=gq (cH hne)
  simp[List.eraseDups_cons,hyx]
 rcases hA with ⟨a,b,c,d,e,f,rfl,rfl⟩|⟨a,b,c,d,e,f,rfl,rfl⟩<;>
 ·unfold swappedStores
  dsimp only
  rw[hb]
  rw[if_neg (by exact kd)]
  rw[if_neg (by exact kd)]
  rw[(GP hkx hky hline) _ (λø ø=>rfl)]
  rw[if_neg (by rw[ed];exact kd)]
  rw[if_neg (by rw[h2];exact kd)]
  rw[if_neg (by rw[h3];exact kd)]
theorem GR{a b:ai}(h:sQ a b=true):(∃a' b' c d e f,a= .Attribute a' b' c/\ b= .Attribute d e f) \/(∃a' b' c d e f,a= .Subscript a' b' c/\ b= .Subscript d e f):=by
 rcases gS _ _▸h with h|h
 ·refine xA (ei h) λh1 h2=> ?_
  obtain⟨x,y,z,rfl⟩:∃x y z,a= .Attribute x y z:=vH a (cG h1) λx y z=>⟨x,y,z,rfl⟩
  obtain⟨u,v,w,rfl⟩:∃x y z,b= .Attribute x y z:=vH b (cG h2) λx y z=>⟨x,y,z,rfl⟩
  exact .inl ⟨_,_,_,_,_,_,rfl,rfl⟩
 ·refine xA (ei h) λh1 h2=> ?_
  obtain⟨x,y,z,rfl⟩:∃x y z,a= .Subscript x y z:=Pg a (cG h1) λx y z=>⟨x,y,z,rfl⟩
  obtain⟨u,v,w,rfl⟩:∃x y z,b= .Subscript x y z:=Pg b (cG h2) λx y z=>⟨x,y,z,rfl⟩
  exact .inr ⟨_,_,_,_,_,_,rfl,rfl⟩
theorem GS{es:List ai}(h:sR es=true):∃ea eb,es=[ea,eb]/\ sQ ea eb=true/\ [ea,eb].all (foldedForSure 8)=false/\ [ea,eb].all (constantsAlone 8)=false:=by
 unfold sR at h
 cases h2:two es with
 |none=>rw[h2]at h;exact bV h
 |some q=>
  rw[h2]at h
  refine xA (ei h) λh h4=> ?_
  refine xA (ei h) λh h3=> ?_
  rw[lj]at h3 h4
  exact⟨q.1,q.2,oZ h2,h,h3,h4⟩
structure kG(W:Wd):Prop where
 rais:∀(A:aA) (env:av) (s:ah) (f:Str) (c:XC) (np cpos pos:ax) (e:ai) (Q:cJ->ah->Prop) (E:ae->ah->Prop),jz f=some c->A.handled=none->env.scope.kind= .function->env.kindOf f=some .globalImplicit->env.globals=mainGlobals->env.builtins=builtinsNs->bv [e]=true->Inv W s->
  wpAny W.M A (eval e env) (λv s₁=>Inv W s₁/\ ∃x t,v= .str x t/\ ∀h' tk ev,wb s₁.heap h' ev (W.excA c) [.str x t]->E (.ref ev) {s₁ with heap:=h',toks:=tk}) E s->
  wpAny W.M A (exec (.Raise (some (.Call (.Name f np) [e] [] cpos)) none pos) env) Q E s
theorem GT{a:PV}{x:List PV}(h:kq a=some x):a= .tuple x:=by
 cases a with
 |tuple=>obtain rfl:=aq h;rfl
 |_=>exact al h
theorem GU{x y:Str}{ρ:aj}{v:PV}(h:lK x y ρ v≠ .stuck):∃a b,v= .tuple [a,b]:=by
 unfold lK at h
 cases q:(kq v).bind two with
 |none=>rw[q]at h;exact absurd rfl h
 |some z=>
  refine bl q λxs h1 h2=> ?_
  exact⟨z.1,z.2,by rw[GT h1,oZ h2]⟩
section
variable{K:Addr->Obj->Prop}{g:Bool}{W:Wd}{X X1:Addr->Prop}{C:Addr}{A:aA}{l:List av}{sf s:ah}{sc:Scope}{env:av}{ρ:aj}{n:Nat}{E₀:Ev}{ex:Scope->aC->aj->aB}
theorem GV(B:Blk K g W X C A l sf sc env)(a:a7 K W X C sf sc s ρ){x:Str}{k:Nat}{q p:ax}{Q:cJ->ah->Prop}{E:ae->ah->Prop}(F:cL K W X C l sf sc (.next ρ) Q E):wpAny W.M A (exec (.Expr (.Constant (.str x) k q) p) env) Q E s:=
 wc (hi:=yA B) (kb (F.next ρ _ rfl (a.after' (After.tok a.M.inv) B.sol)))
theorem GW(hE:aM g W n E₀)(B:Blk K g W X C A l sf sc env)(a:a7 K W X C sf sc s ρ){f:ai}{as:List ai}{ks:List Keyword}{q p:ax}
  (hne:(aW (E₀.ev sc (.Call f as ks q) ρ) ρ λv=>sS v ρ)≠ .stuck) (hd:A.depth+n<=900) (hu:A.units+10*n<=9000) {Q:cJ->ah->Prop} {E:ae->ah->Prop}
  (F:cL K W X C l sf sc (aW (E₀.ev sc (.Call f as ks q) ρ) ρ λv=>sS v ρ) Q E):wpAny W.M A (exec (.Expr (.Call f as ks q) p) env) Q E s:=by
 refine wc (hi:=yA B) ((hE.1 sc _ X A l s env ρ (B.here a)).sstep a B.sol hne hd hu F λv pv s₁ ø af a₁ r ne1 F1=> ?_)
 cases pv with
 |none=>obtain rfl:=r.noneI;exact F1.next ρ s₁ rfl a₁
 |_=>exact absurd rfl ne1
theorem GX(X0:kG W)(hE:aM g W n E₀)(B:Blk K g W X C A l sf sc env)(a:a7 K W X C sf sc s ρ){f:Str}{e:ai}{np cpos pos:ax}(hg:cf sc f=true)(hs:bv [e]=true)
  (hne:(aW (b4 (E₀.ev sc e ρ)) ρ λv=>s3 f v ρ)≠ .stuck) (hd:A.depth+n<=900) (hu:A.units+10*n<=9000) {Q:cJ->ah->Prop} {E:ae->ah->Prop}
  (F:cL K W X C l sf sc (aW (b4 (E₀.ev sc e ρ)) ρ λv=>s3 f v ρ) Q E):wpAny W.M A (exec (.Raise (some (.Call (.Name f np) [e] [] cpos)) none pos) env) Q E s:=by
 cases hv:E₀.ev sc e ρ with
 |exc c=>rw[hv]at hne;exact absurd rfl hne
 |stuck=>rw[hv]at hne;exact absurd rfl hne
 |ok v=>
  rw[hv]at hne F
  cases v with
  |str z=>
   have hne:((match jz f with|some c=> .rais c ρ|none=> .stuck):aB)≠ .stuck:=hne
   have F9:cL K W X C l sf sc (match jz f with|some c=> .rais c ρ|none=> .stuck) Q E:=F
   cases hx:jz f with
   |none=>rw[hx]at hne;exact absurd rfl hne
   |some c=>
    rw[hx]at F9
    have H:=B.here a
    refine X0.rais A env s f c np cpos pos e Q E hx B.handled B.envk.scope (iY H hg) B.envk.globals B.envk.builtins hs a.M.inv (hE.1 sc e X A l s env ρ H (by rw[hv];exact λq=>nomatch q) hd hu _ _ ⟨λva q s₁ e1 a₁ r₁=> ?_,λe' c s' e1 ø=>by rw[hv]at e1;cases e1⟩)
    rw[hv]at e1
    obtain rfl:=de e1
    cases r₁ with
    |str x t=>exact⟨a₁.inv,x,t,rfl,λh' tk ev hm=>F9.rais ev c ρ s₁ h' tk x t rfl (a.after' a₁ B.sol) hm⟩
  |_=>exact absurd rfl hne
theorem a7.congr{ρ':aj}(a:a7 K W X C sf sc s ρ)(h:∀y,ρ'.lookup y=ρ.lookup y):a7 K W X C sf sc s ρ':=by
 refine dJ a.loc λhX m hn hv=> ?_
 exact⟨a.M,⟨hX,m,hn,λy p e=>hv y p (by rw[<-h];exact e)⟩,λy p e=>a.kinds y p (by rw[<-h];exact e),a.lives,a.kept⟩
theorem GY{h:Heap}{v:ae}{a b:PV}(r:Rep W X h v (.tuple [a,b])):∃t va vb,v= .ref t/\ IsTup h t #[va,vb]/\ Rep W X h va a/\ Rep W X h vb b:=by
 refine r.tupE λt o vs k zq e1 c1 d1 n1 r1=> ?_;subst zq
 ·refine r1.consE λva l2 hl ra r2=> ?_
  ·refine r2.consE λvb l3 zq rb r3=> ?_;subst zq
   ·obtain rfl:=r3.nilI
    have:vs= #[va,vb]:=by
     apply Array.toList_inj.mp
     rw[hl]
    subst this
    exact⟨t,va,vb,rfl,⟨_,e1,c1,_,d1⟩,ra,rb⟩
theorem GZ(hE:aM g W n E₀)(B:Blk K g W X C A l sf sc env)(a:a7 K W X C sf sc s ρ){x y:Str}{px py tp p:ax}{k:Nat}{v:ai}(hx:bQ sc x=true)(hy:bQ sc y=true)(hxy:(x !=y)=true)(hline:(px.line==py.line)=true)(hv:pb v=true)
  (hne:(aW (E₀.ev sc v ρ) ρ (lK x y ρ))≠ .stuck) (hd:A.depth+n<=900) (hu:A.units+10*n<=9000) {Q:cJ->ah->Prop} {E:ae->ah->Prop}
  (F:cL K W X C l sf sc (aW (E₀.ev sc v ρ) ρ (lK x y ρ)) Q E):wpAny W.M A (exec (.Assign [.Tuple [.Name x px, .Name y py] k tp] v p) env) Q E s:=by
 have hne':x≠y:=by simpa using hxy
 have hkx:env.kindOf x=some .local:=B.envk.names x .local (cG hx) (by decide) (by decide)
 have hky:env.kindOf y=some .local:=B.envk.names y .local (cG hy) (by decide) (by decide)
 have hs:swapsWithSole [.Tuple [.Name x px, .Name y py] k tp] v p.line env=pure false:=by
  cases v<;>first|rfl|exact bV hv
 have fin:∀(va:ae) (pv:PV) (s₁:ah),lK x y ρ pv≠ .stuck->Rep W X s₁.heap va pv->∃t vx vy a b,va= .ref t/\ pv= .tuple [a,b]/\ IsTup s₁.heap t #[vx,vy]/\ Rep W X s₁.heap vx a/\ Rep W X s₁.heap vy b:=λva pv s₁ ne r=>by
  refine dw (GU ne) λa b zq2=> ?_;subst zq2
  refine wC (GY r) λt va vb e h1 h2 h3=> ?_
  exact⟨t,va,vb,a,b,e,rfl,h1,h2,h3⟩
 have up:∀(s₁:ah) (h':Heap),eP s₁.heap.objs.size s₁.heap h'->∀b o,s₁.heap.get? b=some o->h'.get? b=some o:=λs₁ h' ext b o e=>ext b o (eZ (eA e)) e
 cases hw:kn v with
 |some es=>
   refine dw (sq hw) λk' tp' zq3=> ?_;subst zq3
   refine mJ (GS (es:=es) hv) λea eb zq2 sh h2 h3=> ?_;subst zq2
   ·have hsw:swappedStores [.Tuple [.Name x px, .Name y py] k tp] (.Tuple [ea,eb] k' tp') env=pure (some [x,y]):=GQ B.envk.scope hkx hky hne' hline (GR sh) h2 h3
    refine Assign_Tuple_swapped (hs:=hs) (hw:=hsw) ((hE.1 sc _ X A l s env ρ (B.here a)).sstep a B.sol hne hd hu F λva pv s₁ ø af a₁ r ne1 F1=> ?_)
    refine wD (fin va pv s₁ ne1 r) λt vx vy a' b' zq5 zq6 hT ra rb=> ?_;subst zq5 zq6
    refine PyProof.Rows.unpackItems_tuple (items:= #[vx,vy]) B.handled hT λh' ext=> ?_
    have af2:After W X s₁ {s₁ with heap:=h'}:=After.of_keeps (tk:=s₁.toks) a₁.M.inv (up s₁ h' ext)
    show wpAny _ _ (do holding [vx] (bindName env y vy);(do holding [] (bindName env x vx);pure ())) _ _ _
    refine aJ (iM (bindName_ (i0 B (a₁.after' af2 B.sol) hy (af2.rep rb) λs₃ a₃ k₃=> ?_)))
    refine aJ (iM (bindName_ (i0 B a₃ hx ((af2.rep ra).mono (λb o nx e=>k₃ b o (λq=>nx (q▸B.XC)) e) λø ø ø nx=>nx) λs₄ a₄ ø=> ?_)))
    refine bj (F1.next _ s₄ rfl (a₄.congr λz=> ?_))
    rw[f9,f9,f9,f9]
    by_cases h1:z=y
    ·rw[if_pos h1,if_neg (by rw[h1];exact cH hne'),if_pos h1]
    ·rw[if_neg h1,if_neg h1]
 |none=>
  have hsw:swappedStores [.Tuple [.Name x px, .Name y py] k tp] v env=pure none:=by
   cases v<;>first|rfl|exact lD hw
  refine Assign_Tuple (hs:=hs) (hw:=hsw) ((hE.1 sc _ X A l s env ρ (B.here a)).sstep a B.sol hne hd hu F λva pv s₁ ø af a₁ r ne1 F1=> ?_)
  refine wD (fin va pv s₁ ne1 r) λt vx vy a' b' zq5 zq6 hT ra rb=> ?_;subst zq5 zq6
  refine PyProof.Rows.assign_Tuple_tuple (items:= #[vx,vy]) B.handled hT rfl rfl λh' ext=> ?_
  have af2:After W X s₁ {s₁ with heap:=h'}:=After.of_keeps (tk:=s₁.toks) a₁.M.inv (up s₁ h' ext)
  show wpAny _ _ (do holding [vy] (assign (.Name x px) env vx);(do holding [] (assign (.Name y py) env vy);pure ())) _ _ _
  refine aJ (iM (kc (i0 B (a₁.after' af2 B.sol) hx (af2.rep ra) λs₃ a₃ k₃=> ?_)))
  refine aJ (iM (kc (i0 B a₃ hy ((af2.rep rb).mono (λb o nx e=>k₃ b o (λq=>nx (q▸B.XC)) e) λø ø ø nx=>nx) λs₄ a₄ ø=> ?_)))
  exact bj (F1.next _ s₄ rfl a₄)
end
end
section
noncomputable def jG:aB->Res PV
 | .ret v=> .ok v
 | .next _=> .ok .none
 | .exc c _=> .exc c
 | .rais c _=> .exc c
 | .held c=> .exc c
 |_=> .stuck
section
variable{K:Addr->Obj->Prop}{g:Bool}{W:Wd}{X:Addr->Prop}{C:Addr}{A:aA}{l outer:List av}{sf s:ah}{sc:Scope}{env:av}{ρ:aj}{n:Nat}
theorem tM{Bh h':Heap}{e:Addr}{c:XC}{a0:ae}(B:Blk K g W (λb=>X b \/b=C) C A (env::outer) sf sc env)(M:be W (λb=>X b \/b=C) C sf s)(b:Base W (λb=>X b \/b=C) (env::outer) sf Bh)
  (fl:vI Bh outer e (W.excA c) a0 h') (ns:∀L m,s.heap.Ns L m->h'.Ns L m):f0 W X outer e c sf {s with heap:=h'}:=by
 have neC:∀b o,sf.heap.get? b=some o->b≠C:=λb o e q=>by rw[q,B.new]at e;exact al e
 refine⟨⟨Bh,a0,λb' o nx e=>b.keep b' o (λq=>q.elim nx (neC b' o e)) e,λb' o e=> ?_,b.solid,b.stays,b.tabs,fl⟩,λL m e=>ns L m (M.ns L m (λq=> ?_) e),⟨M.inv.gens,M.gens⟩,M.os,M.drawn⟩
 ·refine ck (b.live b' o e) (λq=> ?_) (λq=> ?_)
  ·exact .inl q
  ·right
   refine ay (oz.mp q) λev he hf=> ?_
   refine ck (bR.mp he) (λz=> ?_) (λz=> ?_)
   ·subst z
    rw[B.frm]at hf
    obtain rfl:=aq hf
    exact absurd rfl (neC _ o e)
   ·exact oz.mpr ⟨ev,z,hf⟩
 ·refine dc e λo ø ø e' ø=> ?_
  exact neC L o e' q
theorem G0{e:Addr}{c:XC}(B:Blk K g W (λb=>X b \/b=C) C A (env::outer) sf sc env)(f:eH K W (λb=>X b \/b=C) (env::outer) C sf sc e c ρ s){Q:Unit->ah->Prop}{E:ae->ah->Prop}
  (h:∀s',f0 W X outer e c sf s'->Q () s'):wpAny W.M A (leaving env (.ref e)) Q E s:=by
 obtain⟨M,k,Bh,a0,m,b,fl,hn,hv,lv⟩:=f
 exact wpAny_leaves_onW B.frames B.frm fl λh' x1 x2=>h _ (tM B M b x1 λL m q=>x2.ns q)
theorem G1{e:Addr}{c:XC}(B:Blk K g W (λb=>X b \/b=C) C A (env::outer) sf sc env)(f:nt W (λb=>X b \/b=C) (env::outer) C sf e c s){Q:Unit->ah->Prop}{E:ae->ah->Prop}
  (h:∀s',f0 W X outer e c sf s'->Q () s'):wpAny W.M A (leaving env (.ref e)) Q E s:=by
 obtain⟨M,Bh,a0,b,hh⟩:=f
 unfold leaving
 refine aJ (wpAny_noteFrame_againW B.frm hh.2.2.2 ?_)
 refine wpAny_landsW hh λh' hfl up=> ?_
 refine oU hfl λk1 k2 zn1 k4=> ?_
 refine bL zn1 λø ø k3=> ?_
 exact h _ (tM B M b ⟨k1,k2,k3,k4⟩ λL m q=>up.ns q)
theorem G2{e:Addr}{c:XC}{h₁:Heap}{tk:Nat}{v:ae}(B:Blk K g W (λb=>X b \/b=C) C A (env::outer) sf sc env)(a:a7 K W (λb=>X b \/b=C) C sf sc s ρ)(hm:wb s.heap h₁ e (W.excA c) [v]){Q:Unit->ah->Prop}{E:ae->ah->Prop}
  (h:∀s',f0 W X outer e c sf s'->Q () s'):wpAny W.M A (leaving env (.ref e)) Q E {s with heap:=h₁,toks:=tk}:=by
 have R:=B.ready a
 have hin:∀e∈(env::outer),∀b,e.frame=some b->b∈(env::outer).filterMap (·.frame):=λe he b hb=>oz.mpr ⟨e,he,hb⟩
 have isf:∀b,b∈(env::outer).filterMap (·.frame)->(∃m,s.heap.Ns b m)/\ W.base.get? b=none:=λb hb=>by
  refine ay (oz.mp hb) λev he hf=> ?_
  refine gW (R.below ev he) λø L m e1 e2 e3 ø=> ?_
  rw[hf]at e1;obtain rfl:=aq e1
  exact⟨⟨m,e3⟩,e2⟩
 have keepB:∀b o,s.heap.get? b=some o->(∀es ep,o.data≠ .dict es ep)->(hideAll s.heap ((env::outer).filterMap (·.frame))).get? b=some o:=λb o e nd=>we _ e λhb=>by
  refine xA (isf b hb) λzn2 ø=> ?_
  refine DH zn2 λm o' es ep e' d ø=> ?_
  rw[e]at e';cases e'
  exact nd es ep d
 have base:Base W (λb=>X b \/b=C) (env::outer) sf (hideAll s.heap ((env::outer).filterMap (·.frame))):=by
  refine⟨λb o nx e=> ?_,λb o e=> ?_,λb o t e=>keepB b o (a.M.solid b o t e) t.2,λb o e=> ?_,?_⟩
  ·refine we _ (a.M.keep b o nx e) λhb=> ?_
   refine ay (oz.mp hb) λev he hf=> ?_
   refine gW (R.below ev he) λø L m e1 ø ø e4=> ?_
   rw[hf]at e1;obtain rfl:=aq e1
   exact nx e4
  ·refine xE (a.M.live b o e) λo' e' => ?_
   by_cases hb:b∈(env::outer).filterMap (·.frame)
   ·exact .inr hb
   ·exact .inl ⟨o',we _ e' hb⟩
  ·exact we _ (a.M.inv.stays b o e) λhb=>by
    have:=(isf b hb).2;rw[e]at this;exact lD this
  ·intro q hq
   refine ay (a.M.inv.tabs q hq) λps h1 h2=> ?_
   refine⟨ps,?_,?_⟩
   ·refine lw h1 λo vs file tf flags tg inF text tt op x1 r1 r2 r3 r4 r5 r6 x2 x3 r=> ?_
    exact⟨o,vs,file,tf,flags,tg,inF,text,tt,op,keepB _ _ x1 (by rw[r1];intro ø ø q;cases q),r1,r2,r3,r4,r5,r6,keepB _ _ x2 (by rw[x3];intro ø ø q;cases q),x3,r⟩
   ·refine xA h2 λzn3 t=> ?_
    refine mJ zn3 λo vs x1 x2 x3 r=> ?_
    exact⟨⟨o,vs,keepB _ _ x1 (by rw[x3];intro ø ø q;cases q),x2,x3,r⟩,keepB _ _ t (by intro ø ø q;cases q)⟩
 have fr:∀ls:List av,(∀e∈ls,e∈(env::outer))->s.heap.FunFrames (hideAll s.heap ((env::outer).filterMap (·.frame))) ls:=λls=>by
  induction ls with
  |nil=>exact λø=>trivial
  |cons ev r ih=>
   intro hsub
   refine gW (R.below ev (hsub ev (fO ..))) λk L m e1 e2 e3 ø=> ?_
   refine gC e3 λo es ep e' d ø=> ?_
   refine⟨k,⟨L,o,e1,hideAll_none _ (hin ev (hsub ev (fO ..)) L e1),e',?_⟩,ih λe he=>hsub e (dN _ he)⟩
   first
    |exact⟨es,ep,d⟩
    |(rw[d];intro vs q;cases q)
    |exact d
 refine wpAny_leaves_madeW (base:=hideAll s.heap ((env::outer).filterMap (·.frame))) (h:=s.heap) B.frames B.frm (λb o q=>of_hideAll _ q) (fr _ λø h=>h) hm λh' t x1 x2 x3 x4=>h _ ?_
 have M₁:be W (λb=>X b \/b=C) C sf {s with heap:=h₁,toks:=tk}:=a.M.after (After.of_keeps a.M.inv hm.keeps)
 exact tM B M₁ base x1 λL m q=>x4.ns q
end
end
section
structure Binds(s:ah)(fd:dv)(args:Args)(binds:List (Str×ae)):Prop where
 of:BindsTo s fd args binds
theorem Binds.mk_eq{s:ah}{fd:dv}{args:Args}{binds:List (Str×ae)}(h:bindArgs fd args=pure binds):Binds s fd args binds:=⟨BindsTo.of_eq h⟩
structure bw(g:Bool)(W:Wd)(fa:Addr)(fd:dv)(body:List aC)(params:List Str):Prop where
 at_:∃o,W.base.get? fa=some o/\ o.data= .func fd
 body:fd.body= .stmts body
 globals:fd.globals=mainGlobals
 builtins:fd.builtins=builtinsNs
 code:g=true->∃c P,fd.code= .ref c/\ (c,P)∈W.tabs
 rec_:W.base.CodeRec fd.code fd.qualname
 kind:fd.scope.kind= .function
 co:fd.scope.isCoroutine=false
 gen:fd.scope.isGenerator=false
 nocell:∀y∈fd.scope.names,y.2≠ .cell
 nodup:params.Nodup
 local_:∀x∈params,fd.scope.names.lookup x=some .local
 bind:∀(s:ah) (vs:List ae),W.base.StaysIn s.heap->vs.length=params.length->Binds s fd ⟨vs,[]⟩ (params.zip vs)
theorem G3{W:Wd}{X:Addr->Prop}{h:Heap}{params:List Str}{vs:List ae}{ps:List PV}(nd:params.Nodup)(r:a8 W X h vs ps)(x:Str)(p:PV)(e:(params.zip ps).lookup x=some p):∃v,(params.zip vs).lookup x=some v/\ Rep W X h v p:=by
 induction params generalizing vs ps with
 |nil=>exact al e
 |cons a params ih=>
  cases ps with
  |nil=>exact al e
  |cons q ps=>
   refine r.consE λv ws e1 rv rs=> ?_
   subst e1
   rw[mF,ca]at e ⊢
   cases k:x==a with
   |true=>rw[k]at e;obtain rfl:=aq e;exact⟨_,rfl,rv⟩
   |false=>rw[k]at e;exact ih (Dj.mp nd).2 rs e
theorem yD{α:Type}{x:Str}:∀{a b:List (Str×α)},(a++b).lookup x=(a.lookup x).or (b.lookup x)
 |[],b=>by simp
 |(y,v)::a,b=>by
  rw[mA,ca,ca]
  cases x==y with
  |true=>rfl
  |false=>exact yD
theorem yE{α:Type}{x:Str}:∀{a:List (Str×α)},x∉a.map (·.1)->a.lookup x=none
 |[],_=>rfl
 |(y,v)::a,h=>by
  rw[fe,bR,not_or]at h
  have:(x==y)=false:=gq h.1
  rw[ca,this]
  exact yE h.2
theorem tN{α:Type}{x:Str}:∀{a:List (Str×α)},(a.map (·.1)).Nodup->a.reverse.lookup x=a.lookup x
 |[],_=>rfl
 |(y,v)::a,nd=>by
  rw[fe,Dj]at nd
  rw[List.reverse_cons,yD,tN nd.2,ca,ca]
  cases q:x==y with
  |true=>
   rw[cG q,yE nd.1];rfl
  |false=>simp
theorem tO{α:Type}:∀{a:List Str} {b:List α},a.length=b.length->(a.zip b).map (·.1)=a
 |[],[],_=>rfl
 |x::a,y::b,h=>by rw[mF,fe,tO (by simpa using h)]
theorem yF{x:Str}{p:PV}:∀{a:List Str} {b:List PV},(a.zip b).lookup x=some p->x∈a
 |[],_,h=>by simp at h
 |_::_,[],h=>by simp at h
 |y::a,q::b,h=>by
  rw[mF,ca]at h
  cases z:x==y with
  |true=>rw[cG z];exact fO ..
  |false=>rw[z]at h;exact dN _ (yF h)
section
variable{g:Bool}{W:Wd}{n:Nat}{ex:Scope->aC->aj->aB}
noncomputable def gb(W:Wd)(n:Nat)(fv:ae)(args:List PV)(r:Res PV):Prop:=
 ∀(A:aA) (l:List av) (s:ah) (X:Addr->Prop) (vs:List ae),Ready W X A l s->a8 W X s.heap vs args->r≠ .stuck->A.depth+n<=900->A.units+10*n<=9000->∀Q E,cK W X l (RV W X) s r Q E->
  codeAny W.M A (.call fv ⟨vs,[]⟩) (λr s' =>match r with| .ok (.ret v)=>Q v s'| .ok _=>False| .error e=>E e s') s
theorem gb.k{fv:ae}{args:List PV}{r:Res PV}(h:gb W n fv args r):f8 W n fv args r:=λA l s X vs R ra hne hd hu Q E F=>jp (h A l s X vs R ra hne hd hu Q E F)
theorem tP(O:aZ W){fa:Addr}{fd:dv}{body:List aC}{params:List Str}(D:bw g W fa fd body params)(hX:fu g W n ex)(args:List PV)(hlen:args.length=params.length):
  gb W (n+2) (.ref fa) args (jG (aw (ex fd.scope) body (params.zip args))):=λA l s X vs R ra hne hd hu Q E F=>by
 refine ay D.at_ λo ho hod=> ?_
 have hrl:(900:Nat)<recursionLimit:=by decide+kernel
 have hlv:vs.length=params.length:=by rw[ra.length,hlen]
 have hz:(params.zip vs).map (·.1)=params:=tO hlv.symm
 have I:=R.inv
 refine rG (dt (show A.depth<=900 by exact ao (bk _ _) ‹_›) hrl) (I.stays _ _ ho) hod (I.nolimit O) (D.rec_.keeps I.stays) D.body (D.bind s vs I.stays hlv).of D.nocell (λx hx=>D.local_ x.1 (hz▸lp hx)) (λh₀ hns keep=> ?_) D.co D.gen D.kind
 have nC:s.heap.get? s.heap.objs.size=none:=dP (bO _)
 have B:Blk (λø ø=>False) g W (λb=>X b \/b=s.heap.objs.size) s.heap.objs.size (A.deeper (callEnv fd s.heap.objs.size fa)) (callEnv fd s.heap.objs.size fa::l) s fd.scope (callEnv fd s.heap.objs.size fa):=by
  refine {O:=O,inv:=I,frames:= ?_,guards:=R.guards,handled:=R.handled,below:= ?_,xtabs:=λq hq=> .inl (R.xtabs q hq),xbase:= ?_,new:=nC,XC:= .inr rfl,kp:=λb o k=>k.elim,envk:= ?_,locals:=rfl,top:=⟨l,rfl⟩,frm:=rfl}
  ·show A.frames.map _=_
   rw[R.frames];rfl
  ·intro e he
   rcases bR.mp he with q|q
   ·subst q
    refine⟨by show fd.scope.kind≠_;rw[D.kind];decide,s.heap.objs.size,rfl,?_, .inr rfl, .inl rfl⟩
    cases z:W.base.get? s.heap.objs.size with
    |none=>rfl
    |some o' =>have:=I.stays _ _ z;rw[nC]at this;exact al this
   ·refine gW (R.below e q) λk L m e1 e2 e3 e4=> ?_
    exact⟨k,L,e1,e2, .inl e4, .inr ⟨m,e3⟩⟩
  ·intro b o' e q
   rcases q with q|q
   ·exact R.xbase b o' e q
   ·have:=I.stays _ _ e;rw[q,nC]at this;exact al this
  ·exact⟨D.code,D.kind,λx k e ø ø=>e,D.globals,D.builtins,D.nocell⟩
 have af:After W X s {s with heap:=h₀,toks:=s.toks+(params.zip vs).length}:=After.of_keeps I keep
 have a:a7 (λø ø=>False) W (λb=>X b \/b=s.heap.objs.size) s.heap.objs.size s fd.scope {s with heap:=h₀,toks:=s.toks+(params.zip vs).length} (params.zip args):=by
  refine⟨(af.moves (C:=s.heap.objs.size)).weaken λb o' e nx q=>nx (.inl q),⟨.inr rfl,_,hns,λx p e=> ?_⟩,λx p e=>D.local_ x (yF e),λb hb=> ?_,λb o' k=>k.elim⟩
  ·refine ay (G3 D.nodup ra x p e) λv e1 e2=> ?_
   refine⟨v,?_,e2.mono (λb o' ø e=>keep b o' e) λb o' e nx q=>q.elim nx λq=>by rw[q,nC]at e;cases e⟩
   rw[tN (by rw[hz];exact D.nodup)];exact e1
  ·rcases hb with q|q
   ·refine xE (R.xlt b q) λo' e=> ?_
    exact⟨o',keep _ _ e⟩
   ·subst q
    refine dc hns λo' ø ø e ø=> ?_
    exact⟨o',e⟩
 have close:∀{s':ah},be W (λb=>X b \/b=s.heap.objs.size) s.heap.objs.size s s'->After W X s s':=λM=>M.close (λb o' e nx q=>q.elim nx λq=>by rw[q,nC]at e;exact al e) nC
 have ne':aw (ex fd.scope) body (params.zip args)≠ .stuck:=λq=>hne (by rw[q];rfl)
 refine kF hX B (by show A.depth+1+n<=900;exact lz ‹_› (by rfl)) (by show A.units+3+10*n<=9000;exact wF ‹_› (by rfl)) body _ _ a ne' _ _ ⟨?_,?_,?_,?_,?_,?_⟩
 ·intro ρ' s' e a'
  rw[e]at F
  exact F.1 .none .none s' rfl (close a'.M) .none
 ·intro ρ' s' e a'
  rw[e]at hne;exact absurd rfl hne
 ·intro v p s' e M r
  rw[e]at F
  exact F.1 v p s' rfl (close M) r.narrow
 ·intro e c ρ' s' q f
  rw[q]at F
  exact G0 B f λs'' fl=>F.2 e c s'' rfl fl
 ·intro e c ρ' s₁ h' tk x t q a' hm
  rw[q]at F
  exact G2 B a' hm λs'' fl=>F.2 e c s'' rfl fl
 ·intro e c s' q f
  rw[q]at F
  exact G1 B f λs'' fl=>F.2 e c s'' rfl fl
theorem PX(O:aZ W){fa:Addr}{fd:dv}{body:List aC}{params:List Str}(D:bw g W fa fd body params)(hX:fu g W n ex)(args:List PV)(hlen:args.length=params.length):
  f8 W (n+2) (.ref fa) args (jG (aw (ex fd.scope) body (params.zip args))):=(tP O D hX args hlen).k
end
end
section
theorem be.chg0{W:Wd}{X:Addr->Prop}{C:Addr}{s s₁:ah}(m:be W X C s s₁){B:Addr}{h':Heap}{tk:Nat}(I:Inv W s)(hB:s.heap.get? B=none)(ext:eP B s₁.heap h')(hX:∀q∈W.tabs,∃o,s.heap.get? q.2=some o):
  be W X C s {s₁ with heap:=h',toks:=tk}:=by
 have ne:∀b o,s.heap.get? b=some o->b≠B:=λb o e q=>by rw[q,hB]at e;exact al e
 refine⟨⟨λb o e=>ext b o (ne b o (I.stays b o e)) (m.inv.stays b o e),λq hq=> ?_,m.inv.gens⟩,λb o k e=>ext b o (ne b o e) (m.keep b o k e),λL f hL e=> ?_,m.gens,m.os,m.drawn,λb o e=> ?_,λb o t e=>ext b o (ne b o e) (m.solid b o t e)⟩
 ·refine ay (m.inv.tabs q hq) λps h1 h2=> ?_
  have n2:q.2≠B:=by obtain⟨o,e⟩:=hX q hq;exact ne _ _ e
  have n1:q.1≠B:=by
   refine ay (I.tabs q hq) λps' k1 ø=> ?_
   refine rM k1 λo ø ø ø ø ø ø ø ø ø e ø=> ?_
   exact ne _ _ e
  exact⟨ps,h1.extBut ext n1 n2,h2.extBut ext n1 n2⟩
 ·have e1:=m.ns L f hL e
  have hLB:L≠B:=by
   refine dc e λo ø ø e' ø=> ?_
   exact ne _ _ e'
  exact e1.at' λo e2=>ext L o hLB e2
 ·refine xE (m.live b o e) λo' e' => ?_
  exact⟨o',ext b o' (ne b o e) e'⟩
section
variable{K:Addr->Obj->Prop}{g:Bool}{W:Wd}{X X1:Addr->Prop}{C:Addr}{A:aA}{l:List av}{sf s:ah}{sc:Scope}{env:av}{ρ:aj}{n:Nat}{E₀ E₁:Ev}{ex:Scope->aC->aj->aB}
theorem a7.wide'{I:Addr}{s':ah}(B:Blk K g W X C A l sf sc env)(a:a7 K W X C sf sc s ρ)(af:After W X s s')(hI:s.heap.get? I=none)(hn:∃o,s'.heap.get? I=some o):a7 K W (λb=>X b \/b=I) C sf sc s' ρ:=by
 have a':=a.after' af B.sol
 refine⟨a'.M.weaken λb o e nx q=>nx (.inl q),⟨.inl B.XC,?_⟩,a.kinds,λb hb=> ?_,a'.kept⟩
 ·refine dJ a.loc λø m hm hv=> ?_
  refine⟨m,af.ns C m hm,λx p e=> ?_⟩
  refine ay (hv x p e) λv e1 e2=> ?_
  exact⟨v,e1,e2.mono af.keep λb o e nx q=>by
   rcases q with q|q
   ·exact nx q
   ·rw[q,hI]at e;cases e⟩
 ·rcases hb with q|q
  ·exact a'.lives b q
  ·subst q;exact hn
theorem G4(hE:aM g W n E₀)(hE1:aM false W n E₁)(B:Blk K g W X C A l sf sc env)(a:a7 K W X C sf sc s ρ){elt iter:ai}{x y:Str}{px py p sp:ax}{ifs:List ai}{csc:Scope}(hset:cQ iter=true)(hy:bQ sc y=true)(hline:(py.line==p.line)=true)(hyc:(csc.names.lookup y).isNone=true)
  (hne:(aW ((b4 (E₀.ev sc iter ρ)).bind λv=>(aE (bP v)).bind λitems=>(cj E₁ csc x elt ifs items).bind λvs=> .ok (.list vs)) ρ λa=> .next (aP y a ρ))≠ .stuck) (hd:A.depth+n<=900) (hu:A.units+10*n<=9000) {Q:cJ->ah->Prop} {E:ae->ah->Prop}
  (F:cL K W X C l sf sc (aW ((b4 (E₀.ev sc iter ρ)).bind λv=>(aE (bP v)).bind λitems=>(cj E₁ csc x elt ifs items).bind λvs=> .ok (.list vs)) ρ λa=> .next (aP y a ρ)) Q E):
  wpAny W.M A (exec (.Assign [.Name y py] (.ListComp elt [⟨.Name x px,iter,ifs,0⟩] csc p) sp) env) Q E s:=by
 have H:=B.here a
 have hne0:((b4 (E₀.ev sc iter ρ)).bind λv=>(aE (bP v)).bind λitems=>(cj E₁ csc x elt ifs items).bind λvs=>Res.ok (PV.list vs))≠ .stuck:=λq=>hne (by rw[q];rfl)
 refine bA (nr hne0) λpv h1 h2 h3=> ?_
 rw[h3]at hne0 F
 refine xE (er (ft hne0)) λitems hit=> ?_
 rw[hit,mQ,eF]at hne0 F
 refine ay (pD (ft hne0)) λgg G hg=> ?_
 rw[hg,eF]at F
 refine kj (kC G.plain) λf1 f2 f3 f4 f5=> ?_
 have hky:env.kindOf y=some .local:=B.envk.names y .local (cG hy) (by decide) (by decide)
 have hsw:swapsWith (.ListComp elt [⟨.Name x px,iter,ifs,0⟩] csc p) (some (.Name y py)) sp.line env=pure true:=by
  have hb:env.blockKind= .function:=by unfold av.blockKind;rw[B.envk.scope];rfl
  have hno:(csc.names.any λz=>z.1==y&&(z.2==NameKind.local||z.2==NameKind.cell))=false:=by
   rw[wg]
   intro z hz
   have:(z.1==y)=false:=by
    cases q:z.1==y with
    |false=>rfl
    |true=>
     exfalso
     have hz':∀(l:List (Str×NameKind)),z∈l->(l.lookup y).isNone=true->False:=λl=>by
      induction l with
      |nil=>intro h;simp at h
      |cons w r ih=>
       intro h k
       rw[ca]at k
       refine ck (bR.mp h) (λe=> ?_) (λe=> ?_)
       ·subst e
        have:(y==z.1)=true:=by rw[cG q];simp
        rw[this]at k;exact bV k
       ·cases e2:y==w.1 with
        |true=>rw[e2]at k;exact bV k
        |false=>rw[e2]at k;exact ih e k
     exact hz' _ hz hyc
   rw[this];simp
  unfold swapsWith
  dsimp only
  have e1:(ai.ListComp elt [⟨.Name x px,iter,ifs,0⟩] csc p).pos=p:=rfl
  rw[hb,hky,e1,hline]
  rw[hno];rfl
 rw[exec_Assign_Name_used _ _ _ _ hsw]
 refine aJ (lk (aJ ?_))
 refine aJ (fL (wpAny_comprehension_use (Q:=λø s' =>Q .next s') rfl (tG hset env) f4 f1 f5 (hE.1 sc iter X A l s env ρ H (by rw[h1];exact λq=>nomatch q) hd hu _ _ ⟨λva q s₁ e1 a₁ r₁=> ?_,λe' c s' e1 ø=>by rw[h1]at e1;cases e1⟩))
  (λø s' hq=>bj (bj hq)) λø ø e=>e)
 rw[h1]at e1
 obtain rfl:=de e1
 have H₁:=H.after a₁
 have at₁:=a.after' a₁ B.sol
 refine pC hit r₁ λo fp P St so It=> ?_
 refine Dc ?_ (by show 0<=sizeLine;exact bz (by rfl))
 refine Dd f3 (by intro y hy;simp at hy) (λh₄ hns4 hsb4=> ?_) f1
 dsimp only at hns4 hsb4 ⊢
 generalize hH1:s₁.heap.push o=H1 at It hns4 hsb4 ⊢
 have z1:H1.objs.size=s₁.heap.objs.size+1:=by rw[<-hH1,jn]
 generalize hH2:H1.push {cls:= .type "list",data:= .seq ([]:List ae).toArray}=H2 at hns4 hsb4 ⊢
 have z2:H2.objs.size=s₁.heap.objs.size+2:=by rw[<-hH2,jn,z1]
 have ne2:∀b:Nat,b<s₁.heap.objs.size->b≠H2.objs.size:=λb hb=>wH ‹_› ‹_›
 have ne3:∀b:Nat,b<H1.objs.size->b≠H2.objs.size:=λb hb=>wJ z1 z2 hb
 have n12:∀a b c:Nat,b=a+1->c=a+2->a≠b/\ a≠c/\ b≠c:=λa b c h1 h2=>r7 ‹_› ‹_›
 refine bL (n12 _ _ _ z1 z2) λd1 d2 d3=> ?_
 have nI:s₁.heap.get? s₁.heap.objs.size=none:=dP (bO _)
 have nD:s₁.heap.get? H1.objs.size=none:=dP (lC ‹_›)
 have nC:s₁.heap.get? H2.objs.size=none:=dP (lC ‹_›)
 have old:∀b o,s₁.heap.get? b=some o->h₄.get? b=some o:=λb o e=>
  hsb4.extBut b o (ne2 b (eA e)) (bX _ (hH2▸bX _ (hH1▸bX _ e)))
 have a₄:After W X s₁ {s₁ with heap:=h₄,toks:=s₁.toks+([]:List (Str×ae)).length}:=After.of_keeps H₁.ready.inv old
 have M₄:be W (λb=>X b \/b=s₁.heap.objs.size \/b=H1.objs.size \/b=H2.objs.size) H2.objs.size s₁ {s₁ with heap:=h₄,toks:=s₁.toks+([]:List (Str×ae)).length}:=
  (a₄.moves (C:=H2.objs.size)).weaken λb o e nx q=>nx (.inl q)
 have kI:∀b o',H1.get? b=some o'->h₄.get? b=some o':=λb o' e=>hsb4.extBut b o' (ne3 b (eA e)) (bX _ (hH2▸bX _ e))
 have st₄:St 0 h₄:=(It.walks A H₁.ready.handled).frame _ _ _ It.start λb ø o e=>kI b o e
 have hl4:h₄.IsList H1.objs.size #[]:=⟨_,hsb4.extBut _ _ d3 (bX _ (hH2▸ee _ rfl)),rfl,_,rfl⟩
 have hn4:h₄.Ns H2.objs.size _:=hns4
 refine yj (yi (s:=s₁) hE1 H.envk G H₁.ready It hd hu nI nD nC d1 d2 d3 M₄ st₄ hl4 hn4 λs' ys M' hn' hl' rys=> ?_) λQ E hq=>(It.walks A H₁.ready.handled).self 0 _ Q E st₄ hq
 refine xE hn' λm' hm' => ?_
 have af:After W X s₁ s':=M'.close (λb o e nx q=>by
  rcases q with q|q|q|q
  ·exact nx q
  ·rw[q,nI]at e;exact al e
  ·rw[q,nD]at e;exact al e
  ·rw[q,nC]at e;exact al e) nC
 have hCne:H2.objs.size≠C:=λq=>by
  refine dJ at₁.loc λø m hm ø=> ?_
  refine dc hm λo' ø ø e ø=> ?_
  rw[<-q,nC]at e;exact al e
 have sfC:sf.heap.get? H2.objs.size=none:=by
  cases q:sf.heap.get? H2.objs.size with
  |none=>rfl
  |some o' =>obtain⟨o'',e⟩:=at₁.M.live _ _ q;rw[nC]at e;exact al e
 have hKC:∀b o,K b o->b≠H2.objs.size:=λb o k q=>by have:=at₁.kept b o k;rw[q,nC]at this;exact al this
 have at':a7 K W (λb=>X b \/b=H2.objs.size) C sf sc s' ρ:=a7.wide' B at₁ af nC (let ⟨o',_,_,e,_⟩:=hm';⟨o',e⟩)
 have lv:∀b,X b->∃o,s₁.heap.get? b=some o:=at₁.lives
 have repD:Rep W (λb=>X b \/b=H2.objs.size) s'.heap (.ref H1.objs.size) (.list (items.filterMap gg)):=by
  refine oV hl' λoD eD cD kD dD=> ?_
  refine .list eD cD dD (λhx=> ?_) (rys.mono (λb o nx e=>e) λb o e nx q=>nx (q.elim .inl λq=> .inr (.inr (.inr q))))
  refine ck (hx) (λhx=> ?_) (λhx=> ?_)
  ·refine xE (lv _ hx) λo e=> ?_
   rw[nD]at e;exact al e
  ·exact d3 hx
 refine kc (i0 (B.wide sfC hKC) at' hy repD λs'' at'' k'' => ?_)
 refine⟨m',hm'.at' λo e=>k'' _ o hCne e,λh' hsb' => ?_⟩
 have hsb':Heap.SameBut H2.objs.size s''.heap h':=hsb'
 refine F.next _ {s'' with heap:=h'} rfl ⟨(at''.M.chg0 (tk:=s''.toks) B.inv sfC hsb'.extBut B.tabs).narrow sfC,?_,at''.kinds,λb q=> ?_,λb o k=>hsb'.extBut b o (hKC b o k) (at''.kept b o k)⟩
 ·refine dJ at''.loc λø m hm hv=> ?_
  refine⟨B.XC,m,hm.at' λo e=>hsb'.extBut C o (cH hCne) e,λz q e=> ?_⟩
  refine ay (hv z q e) λw e1 e2=> ?_
  exact⟨w,e1,(e2.mono (λb o nx e=>hsb'.extBut b o (λq=>nx (.inr q)) e) λø ø ø nx=>nx:Rep W (λb=>X b \/b=H2.objs.size) h' w q).narrow⟩
 ·refine xE (lv b q) λo e=> ?_
  refine xE (at''.lives b (.inl q)) λo' e' => ?_
  exact⟨o',hsb'.extBut b o' (λq=>by rw[q,nC]at e;exact al e) e'⟩
end
end
section
noncomputable def XS(K:Addr->Obj->Prop)(W:Wd)(X:Addr->Prop)(C:Addr)(A:aA)(l:List av)(sf:ah)(sc:Scope)(env:av)(n:Nat)(s:ah)(st:aC)(r:aB):Prop:=
 r≠ .stuck->A.depth+n<=900->A.units+10*n<=9000->∀Q E,cL K W X C l sf sc r Q E->wpAny W.M A (exec st env) Q E s
noncomputable def pH(g:Bool)(W:Wd)(n:Nat):Prop:=∀(ex:Scope->aC->aj->aB),fu g W n ex->∀K sc X C A l sf env ρ s b h hs p,Blk K g W X C A l sf sc env->a7 K W X C sf sc s ρ->
 XS K W X C A l sf sc env n s (.Try b (h::hs) [] [] p) (match aw (ex sc) b ρ with
  | .next ρ' => .next ρ'
  | .ret v=> .ret v
  | .exc c ρ' =>fZ sc c ρ' (h::hs)
  |_=> .stuck)
section
variable{W:Wd}{C:Calls}{n:Nat}
theorem dA{K:Addr->Obj->Prop}{X:Addr->Prop}{Ca:Addr}{A:aA}{l:List av}{sf s:ah}{sc:Scope}{env:av}{st:aC}:XS K W X Ca A l sf sc env n s st .stuck:=λh=>absurd rfl h
theorem yG{A:aA}(Q E:ae->ah->Prop)(s:ah)(a:Int)(t:bE)(b:Int)(u:bE)(h:Q (.int (a+b) s.toks) {s with toks:=s.toks+1}):wpAny W.M A (inplaceOp .Add (.int a t) (.int b u)) Q E s:=by
 first
  |exact AutoIntOps.iadd_0 h
  |exact PySem.AutoIntOps.iadd_0 h
theorem yH{A:aA}(Q E:ae->ah->Prop)(s:ah)(a:Int)(t:bE)(b:Int)(u:bE)(h:Q (.int (a-b) s.toks) {s with toks:=s.toks+1}):wpAny W.M A (inplaceOp .Sub (.int a t) (.int b u)) Q E s:=by
 first
  |exact AutoIntOps.isub_0 h
  |exact PySem.AutoIntOps.isub_0 h
theorem G5{i:Int}(b z:PV)(h:bH .Add (.int i) b=some z):∃j,b= .int j/\ z= .int (i+j):=by
 cases b<;>first|(cases h;exact⟨_,rfl,rfl⟩)|cases h
theorem G6{i:Int}(b z:PV)(h:bH .Sub (.int i) b=some z):∃j,b= .int j/\ z= .int (i-j):=by
 cases b<;>first|(cases h;exact⟨_,rfl,rfl⟩)|cases h
section
variable{K:Addr->Obj->Prop}{g gen:Bool}{X:Addr->Prop}{Ca:Addr}{A:aA}{l:List av}{sf s:ah}{sc:Scope}{env:av}{ρ:aj}{E₀:Ev}{ex:Scope->aC->aj->aB}
theorem nu{st:aC}{b:Bool}{r:aB}(h:b=true->XS K W X Ca A l sf sc env n s st r):XS K W X Ca A l sf sc env n s st (if b=true then r else .stuck):=by
 cases b with
 |true=>exact h rfl
 |false=>exact dA
theorem G7(hE:aM g W n E₀)(B:Blk K g W X Ca A l sf sc env)(a:a7 K W X Ca sf sc s ρ)(v:ai)(p:ax):XS K W X Ca A l sf sc env n s (.Expr v p) (sU E₀ sc v ρ):=by
 unfold sU
 cases h:strE v with
 |some x=>
  refine dw (wU h) λk q e=> ?_
  rw[e]
  exact λø ø ø Q E F=>GV B a F
 |none=>
  cases h2:o0 v with
  |none=>exact dA
  |some c=>
   refine xE (wQ h2) λq e=> ?_
   rw[e]
   exact λhne hd hu Q E F=>GW hE B a hne hd hu F
theorem G8{k:Nat}(hG:∀k,aM g W n (pE C gen k))(hF:∀k,aM false W n (pE C false k))(B:Blk K g W X Ca A l sf sc env)(a:a7 K W X Ca sf sc s ρ)(x:Str)(px:ax)(v:ai)(p:ax):XS K W X Ca A l sf sc env n s (.Assign [.Name x px] v p) (sV (pE C gen (k+1)) sc x px v ρ):=by
 unfold sV
 cases hv:ss v with
 |none=>
  exact nu λh hne hd hu Q E F=>by
   rw[aI]at h
   exact GG (hG _) B a h.1 h.2 hne hd hu F
 |some c=>
  obtain⟨elt,gs,csc,q⟩:=c
  have e0:=Eb hv
  subst e0
  refine nu λh=> ?_
  simp only[aI]at h
  show XS K W X Ca A l sf sc env n s _ (aW (mY (pE C gen k) (pE C false k) sc elt gs csc ρ) ρ λa=> .next (aP x a ρ))
  unfold mY
  cases hg:fh gs with
  |none=>exact dA
  |some c=>
   obtain⟨t,iter,ifs,as⟩:=c
   show XS K W X Ca A l sf sc env n s _ (aW (match fR t with|none=> .stuck|some y=>sM (pE C gen k) (pE C false k) sc elt csc ⟨t,iter,ifs,as⟩ y ρ) ρ λa=> .next (aP x a ρ))
   cases hy:fR t with
   |none=>exact dA
   |some y=>
    refine xE (iO hy) λpy e=> ?_
    rw[gX hg,e]
    show XS K W X Ca A l sf sc env n s _ (aW (if as=0 then(if(!cQ iter)=true then .stuck else(b4 ((pE C gen k).ev sc iter ρ)).bind λv=>(aE (bP v)).bind λitems=>(cj (pE C false k) csc y elt ifs items).bind λvs=> .ok (.list vs))else .stuck) ρ λa=> .next (aP x a ρ))
    by_cases ha:as=0
    ·subst ha
     rw[if_pos rfl]
     cases hs:cQ iter with
     |false=>exact dA
     |true=>exact λhne hd hu Q E F=>G4 (hG k) (hF k) B a hs h.1.1 h.1.2 h.2 hne hd hu F
    ·rw[if_neg ha]
     exact dA
theorem G9{k:Nat}(hG:∀k,aM g W n (pE C gen k))(hF:∀k,aM false W n (pE C false k))(B:Blk K g W X Ca A l sf sc env)(a:a7 K W X Ca sf sc s ρ)(ts:List ai)(v:ai)(p:ax):XS K W X Ca A l sf sc env n s (.Assign ts v p) (sX (pE C gen (k+1)) sc ts v ρ):=by
 unfold sX
 cases h:fh ts with
 |none=>exact dA
 |some t=>
  rw[gX h]
  show XS K W X Ca A l sf sc env n s _ (sW (pE C gen (k+1)) sc t v ρ)
  unfold sW
  cases h2:gY t with
  |some q=>rw[lE h2];exact G8 hG hF B a q.1 q.2 v p
  |none=>
   show XS K W X Ca A l sf sc env n s _ (match(kn t).bind pc with|some m=>w5 (pE C gen (k+1)) sc m v ρ|none=> .stuck)
   cases h3:(kn t).bind pc with
   |none=>exact dA
   |some m=>
    refine bl h3 λes h4 h5=> ?_
    refine dw (sq h4) λq tp e=> ?_
    rw[e,Et h5]
    refine nu λh=> ?_
    simp only[aI]at h
    exact λhne hd hu Q E F=>GZ (hG _) B a h.1.1.1.1 h.1.1.1.2 h.1.1.2 h.1.2 h.2 hne hd hu F
theorem G'(hE:aM g W n E₀)(B:Blk K g W X Ca A l sf sc env)(a:a7 K W X Ca sf sc s ρ)(t:ai)(op:mx)(v:ai)(p:ax):XS K W X Ca A l sf sc env n s (.AugAssign t op v p) (sY E₀ sc t op v ρ):=by
 unfold sY
 cases h:gY t with
 |none=>exact dA
 |some q=>
  rw[lE h]
  show XS K W X Ca A l sf sc env n s _ (match(ρ.lookup q.1).bind gl with|some i=>if op= .Add \/op= .Sub then aW (E₀.ev sc v ρ) ρ λb=>aW (aE (bH op (.int i) b)) ρ λr=> .next (aP q.1 r ρ)else .stuck|none=> .stuck)
  cases h2:(ρ.lookup q.1).bind gl with
  |none=>exact dA
  |some i=>
   refine bl h2 λw hx h3=> ?_
   rw[s9 h3]at hx
   show XS K W X Ca A l sf sc env n s _ (if op= .Add \/op= .Sub then aW (E₀.ev sc v ρ) ρ λb=>aW (aE (bH op (.int i) b)) ρ λr=> .next (aP q.1 r ρ)else .stuck)
   by_cases ho:op= .Add \/op= .Sub
   ·rw[if_pos ho]
    rcases ho with rfl|rfl
    ·exact λhne hd hu Q E F=>yB hE B a (f:=λx y=>x+y) (λQ E s a t b u h=>yG Q E s a t b u h) (λb z h=>G5 b z h) hx hne hd hu F
    ·exact λhne hd hu Q E F=>yB hE B a (f:=λx y=>x-y) (λQ E s a t b u h=>yH Q E s a t b u h) (λb z h=>G6 b z h) hx hne hd hu F
   ·rw[if_neg ho];exact dA
theorem Ha(X0:kG W)(hE:aM g W n E₀)(B:Blk K g W X Ca A l sf sc env)(a:a7 K W X Ca sf sc s ρ)(v:ai)(p:ax):XS K W X Ca A l sf sc env n s (.Raise (some v) none p) (s4 E₀ sc v ρ):=by
 unfold s4
 cases h:s0 v with
 |none=>exact dA
 |some q=>
  refine dw (Eu h) λfp p' e=> ?_
  rw[e]
  refine nu λh=> ?_
  rw[aI]at h
  exact λhne hd hu Q E F=>GX X0 hE B a h.1 h.2 hne hd hu F
theorem Hb(hE:aM g W n E₀)(hX:fu g W n ex)(B:Blk K g W X Ca A l sf sc env)(a:a7 K W X Ca sf sc s ρ)(t it:ai)(b:List aC)(p:ax):XS K W X Ca A l sf sc env n s (.For t it b [] p) (sZ E₀ ex sc t it b ρ):=by
 unfold sZ
 cases h:fR t with
 |none=>exact dA
 |some x=>
  refine xE (iO h) λpx e=> ?_
  rw[e]
  refine nu λh=> ?_
  rw[aI]at h
  exact λhne hd hu Q E F=>GO hE hX B a h.1 h.2 hne hd hu F
end
theorem tQ(O:aZ W)(X0:kG W){g gen:Bool}{N:Nat}(hG:∀k,aM g W N (pE C gen k))(hF:∀k,aM false W N (pE C false k))(hT:pH g W N):∀k,fu g W N (pX C gen k)
 |0=>λK sc st X Ca A l sf env ρ s B a hne=>absurd rfl hne
 |k+1=>λK sc st X Ca A l sf env ρ s B a=>by
  have hE:=hG 24
  have hX:=tQ O X0 hG hF hT k
  show XS K W X Ca A l sf sc env N s st (lL (pE C gen 24) (pX C gen k) sc st ρ)
  cases st with
  |Expr v p=>exact G7 hE B a v p
  |Assign ts v p=>exact G9 hG hF B a ts v p
  |AugAssign t op v p=>exact G' hE B a t op v p
  |If t b o p=>exact λhne hd hu Q E F=>GI hE hX B a hne hd hu F
  |While t b o p=>
   cases o with
   |nil=>exact λhne hd hu Q E F=>GJ hE hX B hd hu jB a hne F
   |cons=>exact dA
  |For t it b o p=>
   cases o with
   |nil=>exact Hb hE hX B a t it b p
   |cons=>exact dA
  |Return e p=>
   cases e with
   |some e=>exact λhne hd hu Q E F=>GH hE B a hne hd hu F
   |none=>exact dA
  |Break p=>exact λhne hd hu Q E F=>wpAny_Break (F.brk ρ s rfl a)
  |Pass p=>exact λhne hd hu Q E F=>wpAny_Pass (F.next ρ s rfl a)
  |Raise v c p=>
   cases v with
   |none=>exact dA
   |some v=>
    cases c with
    |none=>exact Ha X0 hE B a v p
    |some _=>exact dA
  |Try b hs o f p=>
   cases o with
   |cons=>exact dA
   |nil=>
    cases f with
    |cons=>exact dA
    |nil=>
     cases hs with
     |nil=>exact dA
     |cons h hs=>exact hT _ hX K sc X Ca A l sf env ρ s _ _ _ _ B a
  |_=>exact dA
theorem Hc(O:aZ W)(X0:kG W)(hC:bu W n C)(hT:pH true W (n+4))(k:Nat):fu true W (n+4) (pX C true k):=tQ O X0 (λk=>pG O hC k) (λk=>(iy O hC k).mono (bk n 4)) hT k
theorem Hd(O:aZ W)(X0:kG W)(hC:bu W n C)(hT:pH false W n)(k:Nat):fu false W n (pX C false k):=tQ O X0 (λk=>iy O hC k) (λk=>iy O hC k) hT k
end
end
section
noncomputable def pI(W:Wd):Prop:=∀(A:aA) (env:av) (s:ah) (t:Str) (c:XC) (b:Bool) (e:Addr) (oe:Obj) (np pos:ax) (b₀:aC) (suite:List aC) (rest:List ExceptHandler) (Q:cJ->ah->Prop) (E:ae->ah->Prop),
 jA t c=some b->env.scope.kind= .function->env.kindOf t=some .globalImplicit->env.globals=mainGlobals->env.builtins=builtinsNs->Inv W s->s.heap.get? e=some oe->oe.cls=W.excA c->
 (if b then wpAny W.M (A.mark (some (.ref e))) (setFlight (.ref e) none) (λø s₂=>wpAny W.M (A.mark (some (.ref e))) (execs (b₀::suite) env) Q (notedBy W.M (A.mark (some (.ref e))) env (cameBackBy W.M A env E)) s₂) (notedBy W.M (A.mark (some (.ref e))) env (cameBackBy W.M A env E)) s
   else wpAny W.M A (handleBy (.ref e) env rest) Q E s)->
 wpAny W.M A (handleBy (.ref e) env (.ExceptHandler (some (.Name t np)) none (b₀::suite) pos::rest)) Q E s
section
variable{K:Addr->Obj->Prop}{g:Bool}{W:Wd}{X:Addr->Prop}{C:Addr}{A:aA}{l:List av}{sf s:ah}{sc:Scope}{env:av}{ρ:aj}{n:Nat}{ex:Scope->aC->aj->aB}{e:Addr}{c:XC}
theorem eH.at_(B:Blk K g W X C A l sf sc env)(f:eH K W X l C sf sc e c ρ s):a7 K W X C sf sc s ρ:=by
 obtain⟨M,k,Bh,a0,m,b,fl,hn,hv,lv,kp⟩:=f
 refine⟨M,⟨B.XC,m,hn,λx p q=> ?_⟩,k,λb' hb=> ?_,λb' o q=>fl.1 b' o (kp b' o q)⟩
 ·refine ay (hv x p q) λv e1 e2=> ?_
  exact⟨v,e1,e2.mono (λb o ø q=>fl.1 b o q) λø ø ø nx=>nx⟩
 ·rcases lv b' hb with ⟨o,q⟩|q
  ·exact⟨o,fl.1 _ _ q⟩
  ·refine dJ (fl.2.2.1.mem q) λø o' e' ø=> ?_
   exact⟨o',e'⟩
theorem eH.to(B:Blk K g W X C A l sf sc env)(f:eH K W X l C sf sc e c ρ s){Bh h':Heap}{a0:ae}{m:Str->Option ae}(b:Base W X l sf Bh)(fl:vI Bh l e (W.excA c) a0 h')(hm:s.heap.Ns C m)
  (hv:∀x p,ρ.lookup x=some p->∃v,m x=some v/\ Rep W X Bh v p) (lv:∀b,X b->(∃o,Bh.get? b=some o) \/b∈l.filterMap (·.frame)) (kp:∀b o,K b o->Bh.get? b=some o) (up:s.heap.UpToSlots h'):eH K W X l C sf sc e c ρ {s with heap:=h'}:=by
 refine⟨⟨⟨λb' o e=>fl.1 b' o (b.stays b' o e),b.tabs.keeps fl.1,f.M.inv.gens⟩,λb' o nx e=>fl.1 b' o (b.keep b' o nx e),λL g hL e=>up.ns (f.M.ns L g hL e),f.M.gens,f.M.os,f.M.drawn,λb' o e=> ?_,λb' o t e=>fl.1 b' o (b.solid b' o t e)⟩,f.kinds,Bh,a0,m,b,fl,up.ns hm,hv,lv,kp⟩
 rcases b.live b' o e with ⟨o',e'⟩|hm
 ·exact⟨o',fl.1 _ _ e'⟩
 ·refine dJ (fl.2.2.1.mem hm) λø o' e' ø=> ?_
  exact⟨o',e'⟩
theorem He(B:Blk K g W X C A l sf sc env)(f:eH K W X l C sf sc e c ρ s){P:ah->Prop}{E:ae->ah->Prop}(h:∀s',eH K W X l C sf sc e c ρ s'->P s'):
  wpAny W.M A (noteFrame (.ref e) env) (λø s₂=>wpAny W.M A (setFlight (.ref e) none) (λø s₃=>P s₃) E s₂) E s:=by
 have f₀:=f
 obtain⟨outer,rfl⟩:=B.top
 obtain⟨M,k,Bh,a0,m,b,fl,hn,hv,lv,kp⟩:=f
 refine wpAny_looks_onW B.frames B.frm fl λh₁ hh up=> ?_
 exact wpAny_landsW hh λh₂ fl2 up2=>h _ (f₀.to B b fl2 hn hv lv kp (up.trans up2))
theorem Hf(B:Blk K g W X C A l sf sc env)(f:eH K W X l C sf sc e c ρ s){A₁:aA}{Q:Unit->ah->Prop}{E:ae->ah->Prop}(h:∀s',eH K W X l C sf sc e c ρ s'->Q () s'):
  wpAny W.M A₁ (setFlight (.ref e) none) Q E s:=by
 have f₀:=f
 obtain⟨M,k,Bh,a0,m,b,fl,hn,hv,lv,kp⟩:=f
 exact lands_againW fl λh₂ fl2 up2=>h _ (f₀.to B b fl2 hn hv lv kp up2)
noncomputable def PS(K:Addr->Obj->Prop)(W:Wd)(X:Addr->Prop)(C:Addr)(A₁:aA)(l:List av)(sf s:ah)(sc:Scope)(env:av)(sts:List aC)(r:aB):Prop:=r≠ .stuck->∀Q E E',cL K W X C l sf sc r Q E'->wpAny W.M A₁ (execs sts env) Q E s
theorem i3{A₁:aA}{sts:List aC}:PS K W X C A₁ l sf s sc env sts .stuck:=λh=>absurd rfl h
theorem Hg{e:ai}{x:Str}(h:sN e=some x):∃px k tp q,e= .Compare (.Name x px) [.Eq] [.Tuple [] k tp] q:=by
 refine bl h λc hc h2=> ?_
 refine bl h2 λy hy h3=> ?_
 refine bl h3 λop ho h4=> ?_
 refine bl h4 λt ht h5=> ?_
 refine bl h5 λes hes h6=> ?_
 refine xA (ek h6) λhi h7=> ?_
 refine xE (D9 hc) λq e0=> ?_
 refine xE (iO hy) λpx e1=> ?_
 refine dw (sq hes) λk tp e2=> ?_
 exact⟨px,k,tp,q,by rw[e0,e1,gX ho,gX ht,e2,hi.1,gR.mp hi.2,h7]⟩
theorem Hi(B:Blk K g W X C A l sf sc env)(a:a7 K W X C sf sc s ρ){A₁:aA}(hu:A₁.units<=9000)(e:ai)(p:ax):PS K W X C A₁ l sf s sc env [.Return (some e) p] (sP e ρ):=by
 unfold sP
 cases h:strE e with
 |some x=>
  refine dw (wU h) λk q e1=> ?_
  rw[e1]
  intro hne Q E E' F
  refine bT (il (kb ?_))
  have a':=a.after' (After.tok (tk:=s.toks+1) a.M.inv) B.sol
  exact F.ret _ _ _ rfl a'.M (.str _ _)
 |none=>
  cases h2:sN e with
  |none=>exact i3
  |some x=>
   refine wA (Hg h2) λpx k tp q e1=> ?_
   subst e1
   show PS _ _ _ _ _ _ _ _ _ _ _ (if x=aa "__debug__" then .stuck else(match ρ.lookup x with|none=> .stuck|some v=>(match kr .Eq v (.tuple [])with|none=> .stuck|some b=>aB.ret (.bool b))))
   by_cases hd:x=aa "__debug__"
   ·rw[if_pos hd];exact i3
   ·rw[if_neg hd]
    cases hx:ρ.lookup x with
    |none=>exact i3
    |some v=>
     show PS _ _ _ _ _ _ _ _ _ _ _ (match kr .Eq v (.tuple [])with|none=> .stuck|some b=>aB.ret (.bool b))
     cases hz:kr .Eq v (.tuple [])with
     |none=>exact i3
     |some z=>
      intro hne Q E E' F
      refine dJ a.loc λø m hn hl=> ?_
      refine ay (hl x v hx) λw e1 e2=> ?_
      refine bT (il (C' (hm:=rfl) (dO (dI B.envk.scope (B.envk.names _ _ (a.kinds x v hx) (by decide) (by decide)) (by rw[B.locals];exact hn) e1 ?_) (gq hd))))
      refine wpAny_Tuple (Calls.spliced_nil ⟨by decide+kernel,?_⟩)
      have af:=After.push (X:=X) (tk:=s.toks) a.M.inv {cls:= .type "tuple",data:= .seq #[]}
      have a':=a.after' af B.sol
      refine ky hz (af.rep e2) (m9 (B.ready a).xlt .nil) hu ?_
      exact F.ret _ _ _ rfl a'.M (.bool z)
theorem Hj{ts:List ai}{v:ai}{q:Str×Bool}(h:o9 ts v=some q):∃px k p,ts=[.Name q.1 px]/\ v= .Constant (.bool q.2) k p:=by
 refine bl h λx hx h2=> ?_
 refine eR h2 λb hb h3=> ?_
 refine bl hx λt ht h4=> ?_
 refine bl hb λc hc h5=> ?_
 refine xE (iO h4) λpx e1=> ?_
 refine dw (sm hc) λk p e2=> ?_
 subst h3
 exact⟨px,k,p,by rw[gX ht,e1],by rw[e2,Ee h5]⟩
theorem Hk(B:Blk K g W X C A l sf sc env)(a:a7 K W X C sf sc s ρ){A₁:aA}(hu:A₁.units<=9000)(sts:List aC):PS K W X C A₁ l sf s sc env sts (pa sc sts ρ):=by
 unfold pa
 cases h:fh sts with
 |none=>exact i3
 |some st=>
  rw[gX h]
  show PS _ _ _ _ _ _ _ _ _ _ _ (w0 sc st ρ)
  cases st with
  |Return e p=>
   cases e with
   |none=>exact i3
   |some e=>exact Hi B a hu e p
  |Assign ts v p=>
   show PS _ _ _ _ _ _ _ _ _ _ _ (match o9 ts v with|some q=>if bQ sc q.1=true then .next (aP q.1 (.bool q.2) ρ)else .stuck|none=> .stuck)
   cases h2:o9 ts v with
   |none=>exact i3
   |some q=>
    refine dc (Hj h2) λpx k p' e1 e2=> ?_
    rw[e1,e2]
    show PS _ _ _ _ _ _ _ _ _ _ _ (if bQ sc q.1=true then .next (aP q.1 (.bool q.2) ρ)else .stuck)
    cases hl:bQ sc q.1 with
    |false=>exact i3
    |true=>
     intro hne Q E E' F
     refine bT (ik (hs:=rfl) (wpAny_Constant_bool (i0 B a hl (.bool _) λs₃ a₃ ø=> ?_)))
     exact dQ (F.next _ s₃ rfl a₃)
  |_=>exact i3
theorem Hl{ty:Option ai}{nm:Option Str}{t:Str}(h:mZ ty nm=some t):∃p,ty=some (.Name t p)/\ nm=none:=by
 cases ty with
 |none=>exact al h
 |some e=>cases nm with
  |some _=>exact al h
  |none=>refine xE (iO h) λp e1=> ?_;exact⟨p,by rw[e1],rfl⟩
theorem yI(hH:pI W)(B:Blk K g W X C A l sf sc env)(hu:A.units<=9000):∀(hs:List ExceptHandler) (s:ah),eH K W X l C sf sc e c ρ s->fZ sc c ρ hs≠ .stuck->∀Q E,cL K W X C l sf sc (fZ sc c ρ hs) Q E->
  wpAny W.M A (handleBy (.ref e) env hs) Q E s
 |[],s,f,hne,Q,E,F=>absurd rfl hne
 |h₀::r,s,f,hne,Q,E,F=>by
  have a:=f.at_ B
  obtain⟨M,k,Bh,a0,m,b,fl,hn,hv,lv,kp⟩:=id f
  refine ay fl.there λoe he hc=> ?_
  obtain⟨ty,nm,body,pos⟩:=h₀
  have hne:(match mZ ty nm with|none=>aB.stuck|some t=>lJ sc c ρ t body (fZ sc c ρ r))≠ .stuck:=hne
  have F:cL K W X C l sf sc (match mZ ty nm with|none=>aB.stuck|some t=>lJ sc c ρ t body (fZ sc c ρ r)) Q E:=F
  cases h1:mZ ty nm with
  |none=>rw[h1]at hne;exact absurd rfl hne
  |some t=>
  rw[h1]at hne F
  cases body with
  |nil=>exact absurd rfl hne
  |cons b₀ suite=>
  refine ay (Hl h1) λnp e1 e2=> ?_
  subst e1 e2
  have hg:(cf sc t&&(ρ.lookup t).isNone)=true:=Decidable.byContradiction λq=>hne (if_neg q)
  have e3:lJ sc c ρ t (b₀::suite) (fZ sc c ρ r)=(match jA t c with|none=> .stuck|some y=>cond y (pa sc (b₀::suite) ρ) (fZ sc c ρ r)):=if_pos hg
  have hne:lJ sc c ρ t (b₀::suite) (fZ sc c ρ r)≠ .stuck:=hne
  have F:cL K W X C l sf sc (lJ sc c ρ t (b₀::suite) (fZ sc c ρ r)) Q E:=F
  rw[e3]at hne F
  rw[aI]at hg
  cases ht:jA t c with
  |none=>rw[ht]at hne;exact absurd rfl hne
  |some q=>
   rw[ht]at hne F
   refine hH A env s t c q e oe np pos b₀ suite r Q E ht B.envk.scope (iY (B.here a) hg.1) B.envk.globals B.envk.builtins a.M.inv he hc ?_
   cases q with
   |true=>
    rw[if_pos rfl]
    exact Hf B f λs' f' =>Hk B (f'.at_ B) (A₁:=A.mark (some (.ref e))) hu _ hne Q _ E F
   |false=>
    rw[if_neg (by simp)]
    exact yI hH B hu r s f hne Q E F
theorem yJ(hH:pI W):pH g W n:=λex hX K sc X C A l sf env ρ s b h₀ hs p B a hne hd hu Q E F=>by
 refine wpAny_Try_except ?_
 refine kF hX B hd hu b ρ s a (λq=>hne (by rw[q])) _ _ ⟨?_,?_,?_,?_,?_,?_⟩
 ·intro ρ' s' q a'
  rw[q]at F
  exact dQ (F.next ρ' s' rfl a')
 ·intro ρ' s' q a'
  rw[q]at hne;exact absurd rfl hne
 ·intro v pv s' q M r'
  rw[q]at F
  exact F.ret v pv s' rfl M r'
 ·intro e c ρ' s' q f
  rw[q]at F hne
  exact He B f (P:=λs₃=>wpAny W.M A (handleBy (.ref e) env (h₀::hs)) Q E s₃) (λs'' f' =>yI hH B (ao (bk _ _) ‹_›) (h₀::hs) s'' f' hne Q E F)
 ·intro e c ρ' s₁ h' tk x t q a' hm
  rw[q]at hne;exact absurd rfl hne
 ·intro e c s' q f
  rw[q]at hne;exact absurd rfl hne
end
end
section
inductive jH:List aC->List (Str×Str)->Prop
 |nil:jH [] []
 |doc {x k q p r tl}:jH r tl->jH (.Expr (.Constant (.str x) k q) p::r) tl
 |fld {zp a ap y yp p r tl}:(y==aa "__debug__")=false->jH r tl->jH (.Assign [.Attribute (.Name (aa "self") zp) a ap] (.Name y yp) p::r) ((a,y)::tl)
section
variable{W:Wd}{X:Addr->Prop}{A:aA}{s:ah}
theorem Hm{y z:Str}{t:bE}(h:y≠z):(gB y t).isStr z=false:=by
 unfold ae.isStr
 first
  |exact gq h
  |exact gq (cH h)
theorem Hn{h:Heap}{name:Str}{hs:Int}{t:bE}{v:ae}{p:PV}{es:List eO}{fs:List (Str×PV)}(rr:dg W X h es fs)(r:Rep W X h v p)(hn:∀q∈fs,q.1≠name):putL name hs (.str name t) v es=es++[⟨hs, .str name t,v⟩]/\ dg W X h (es++[⟨hs, .str name t,v⟩]) (fs++[(name,p)])/\ es.find? (·.key.isStr name)=none/\ es.any (·.refKey)=false:=
 rr.ind (M:=λes fs=>(∀q∈fs,q.1≠name)->putL name hs (.str name t) v es=es++[⟨hs, .str name t,v⟩]/\ dg W X h (es++[⟨hs, .str name t,v⟩]) (fs++[(name,p)])/\ es.find? (·.key.isStr name)=none/\ es.any (·.refKey)=false)
  (λø=>⟨rfl, .cons r .nil,rfl,rfl⟩)
  (λ{hs' y t' v' es p' fs} r' _ ih hn=>by
   refine oU (ih λq hq=>hn q (dN _ hq)) λa b c d=> ?_
   have hy:(gB y t').isStr name=false:=Hm (hn (y,p') (fO ..))
   refine⟨?_, .cons r' b,?_,?_⟩
   ·show(if(gB y t').isStr name then _ else _)=_
    rw[hy,if_neg kd,a];rfl
   ·rw[List.find?_cons,hy];exact c
   ·rw[rt,d];rfl) hn
theorem yK{env:av}{sf:Heap}{L x d C:Addr}{m:Str->Option ae}(KI:W.K.In sf)(hk:env.scope.kind= .function)(hL:env.locals=L)(hx:m (aa "self")=some (.ref x))
  (hself:env.kindOf (aa "self")=some .local) (hs:findIn W.K (.ref C) "__setattr__" =some (some (.builtin "object.__setattr__"))) (hp:plainOver W.K C=true) (hh:hasDictIn W.K C=true) (hxd:x≠d)
  (ht:∀a∈dL,takerIn W.K C a=some none) {look:Str->PV}:∀(sts:List aC) (tl:List (Str×Str)),jH sts tl->∀(es:List eO) (n:Nat) (fs:List (Str×PV)) (ext:List (Addr×Obj)) (s₁:ah),
  Fr sf L s₁.heap m->eE sf L s₁.heap ((x,instObj C d)::(d,dictOf es n)::ext)->dg W X sf es fs->(∀p∈ext,p.1≠d)->
  (∀q∈tl,q.1∈dL/\ env.kindOf q.2=some .local/\ ∃v,m q.2=some v/\ Rep W X sf v (look q.2))->((fs.map (·.1))++(tl.map (·.1))).Nodup->es.length+tl.length<=900->∀(Q:cJ->ah->Prop) (E:ae->ah->Prop),
  (∀h' tk es' n',Fr sf L h' m->eE sf L h' ((x,instObj C d)::(d,dictOf es' n')::ext)->dg W X sf es' (fs++tl.map λq=>(q.1,look q.2))->Q .next {s₁ with heap:=h',toks:=tk})->
  wpAny W.M A (execs sts env) Q E s₁:=by
 have nin:interactive env=false:=by unfold interactive;rw[hk];rfl
 intro sts tl hi
 induction hi with
 |nil=>
  intro es n fs ext s₁ F N R hext hv hnd hlen Q E h
  refine dQ (h s₁.heap s₁.toks es n F N ?_)
  simpa using R
 |doc _ ih=>
  intro es n fs ext s₁ F N R hext hv hnd hlen Q E h
  refine bT (wc (hi:=nin) (kb ?_))
  exact ih es n fs ext {s₁ with toks:=s₁.toks+1} F N R hext hv hnd hlen Q E h
 | @fld zp a ap y yp p r tl hyd _ ih=>
  intro es n fs ext s₁ F N R hext hv hnd hlen Q E h
  refine Dx (hv (a,y) (fO ..)) λha hky v hmy rv=> ?_
  have hmem:(d,dictOf es n)∈(x,instObj C d)::(d,dictOf es n)::ext:= .tail _ (.head _)
  have hfresh:∀q∈fs,q.1≠a:=λq hq e=>by
   rw[List.nodup_append]at hnd
   exact hnd.2.2 q.1 (lp hq) a (by simp) e
  refine bT (plainObj_wpAny_Assign_Attribute ?_ rfl)
  refine dO (dI hk hky (hL▸F.ns) hmy ?_) hyd
  refine dO (dI hk hself (hL▸F.ns) hx ?_) (by decide+kernel)
  refine oU (Hn (name:=a) (hs:=CL W.w.params a) (t:=s₁.toks+1) R rv hfresh) λe1 R' e3 e4=> ?_
  have hl:(getL a es).isSome=true:=by unfold getL;rw[e3];simp only[e4];rfl
  refine set_dict (ox:=instObj C d) (dx:=d) (es:=es) (n:=n) (es':=es++[⟨CL W.w.params a, .str a (s₁.toks+1),v⟩]) (n':=putN a es n) F KI N (InstAt.of_news N (.head _) hmem) rfl hs hp (ht a ha) hh hl
   (by rw[e1]) (.tail hxd (.head hext)) (by rw[cy,Ph];simp only[gj]at hlen;exact ao (ey (cV 1 _) _) (ao hlen (bz rfl))) (λh' F' N' => ?_)
  refine ih _ _ (fs++[(a,look y)]) ext {s₁ with heap:=h',toks:=s₁.toks+2} F' N' R' hext (λq hq=>hv q (dN _ hq)) ?_ ?_ Q E ?_
  ·simpa[bU] using hnd
  ·simp only[cy,gj,mz]at hlen ⊢;exact lz ‹_› (by rfl)
  ·intro h'' tk es' n' F'' N'' R''
   exact h h'' tk es' n' F'' N'' (by simpa[bU] using R'')
end
end
section
structure tR(W:Wd)(c:aY)(fI fB cc cda:Addr)(fd fdB:dv)(params:List Str)(p0 p1 apos ap pos sp:ax)(sts stsB:List aC)(tl:List (Str×Str)):Prop where
 makes:makesIn W.K (W.clsA c)=true
 init:findIn W.K (.ref (W.clsA c)) "__init__" =some (some (.ref fI))
 initF:typeIn W.K (.ref fI)=some (.type "function")
 D:bw false W fI fd (.Expr (.Call (.Attribute (.Call (.Name "super" p0) [] [] p1) "__init__" apos) [.Name "arrlist" ap] [] pos) sp::sts) ("self" ::params)
 clos:fd.closure=[(aa "__class__",cc)]
 cell:W.base.IsCell cc (some (.ref (W.clsA c)))
 self1:((fd.params.posonlyargs++fd.params.args).head?).map (·.arg)=some ("self" :Str)
 code:fd.code= .ref cda
 file:∃o vs file tf,W.base.get? cda=some o/\ o.data= .fields vs/\ vs[2]? =some (.str file tf)/\ ((W.M.prog.main.file:Str)==file)=true
 line:(apos.endLine==pos.line)=true
 top:(W.M.prog.main.scope.names.lookup ("super" :Str)).isSome=false
 nsuper:fd.scope.names.lookup ("super" :Str)=some .globalImplicit
 ncls:fd.scope.names.lookup ("__class__" :Str)=some .free
 cls:∃cd,clsIn W.K (W.clsA c)=some cd
 sub:mroIn W.K (W.clsA c) (.ref (W.clsA c))=some true
 up:wj W.K (W.clsA c) (W.clsA c) "__init__" =some (some (.ref fB))
 upF:typeIn W.K (.ref fB)=some (.type "function")
 upD:fnIn W.K fB=true
 noany:nsIn W.K cStatics "thirdparty.any" =some none
 DB:bw false W fB fdB stsB ["self", "arrlist"]
 iniB:jH stsB [(aa "arrlist",aa "arrlist")]
 ini:jH sts tl
 setattr:findIn W.K (.ref (W.clsA c)) "__setattr__" =some (some (.builtin "object.__setattr__"))
 over:plainOver W.K (W.clsA c)=true
 taker:∀a∈dL,takerIn W.K (W.clsA c) a=some none
 arr:("arrlist" :Str)∈params
 from_:∀q∈tl,q.1∈dL/\ q.2∈params
 nd:(aa "arrlist" ::tl.map (·.1)).Nodup
 short:tl.length<=100
noncomputable def tS(c:aY)(params:List Str)(tl:List (Str×Str))(args:List PV):PV:=
 .inst c (((aa "arrlist",aa "arrlist")::tl).map λq=>(q.1,((params.zip args).lookup q.2).getD .none))
theorem Ho{W:Wd}{X:Addr->Prop}{h:Heap}{params:List Str}{vs:List ae}{ps:List PV}{y:Str}(r:a8 W X h vs ps)(hl:vs.length=params.length)(hy:y∈params):∃v,(params.zip vs).lookup y=some v/\ Rep W X h v (((params.zip ps).lookup y).getD .none):=by
 induction params generalizing vs ps with
 |nil=>exact absurd hy eQ
 |cons a params ih=>
  cases ps with
  |nil=>rw[r.nilI]at hl;exact absurd hl.symm (CW _)
  |cons q ps=>
   refine r.consE λv ws e1 rv rs=> ?_
   subst e1
   rw[mF,mF,ca,ca]
   cases k:y==a with
   |true=>exact⟨v,rfl,rv⟩
   |false=>
    refine ih rs (Nat.succ.inj hl) ?_
    rcases bR.mp hy with e|e
    ·rw[e,beq_self_eq_true]at k;exact km k
    ·exact e
section
variable{W:Wd}{n:Nat}
theorem PY{sf h h':Heap}{L L':Addr}{m:Str->Option ae}{oL:Obj}(F:Fr sf L h m)(e:h.get? L=some oL)(e':h'.get? L=some oL)(k:∀b o,sf.get? b=some o->h'.get? b=some o):Fr sf L h' m:=
 ⟨F.ns.at' (λo q=>by rw[e]at q;obtain rfl:=aq q;exact e'),k,F.above⟩
theorem Hp{M:Model}{A:aA}{cd:Code}{E:ae->ah->Prop}{s:ah}{env:av}{o:ai}{name:Str}{apos pos:ax}{es:List ai}{Q:ae->ah->Prop}(hs:bv es=true)(hl:es.length<29)(hline:(apos.endLine==pos.line)=true)
  (h:Dk M A cd (attributeBase o name env (eval o env)) (λov s₁=>∀pl,wpAny M A (getMethod ov name pl) (λp s₂=>wpAny M A (callWith pos p.1 p.2 (et env es) []) Q E s₂) E s₁) E s):
  Dk M A cd (eval (.Call (.Attribute o name apos) es [] pos) env) Q E s:=by
 rw[arm_eval_Call,dS pos hs]
 refine _root_.PySem.wpAt_bind (_root_.PySem.wpAt_mono h (λov s₁ h₁=>Pi ?_) λø ø e=>e)
 refine aJ (lk ?_)
 have hform:methodCallForm (es.length+([]:List Keyword).length) (et env es) (backToKw pos (keywordEach [] env))=true:=by
  unfold methodCallForm
  have h1:(et env es).all (λx=> !x.1)=true:=by simp[et]
  have h2:(backToKw pos (keywordEach [] env))=[]:=rfl
  rw[h1,h2]
  simp
  exact aV ‹_› (by rfl)
 have hpos:methodCallPos true o env apos pos=pure pos:=by unfold methodCallPos;simp[hline]
 unfold methodCall
 rw[hform]
 refine aJ (iM (fL (h₁ _) (λp s₂ h₂=> ?_) λø ø e=>e))
 exact aJ (wpAny_of_eq hpos h₂)
set_option tactic.hygienic true in
theorem yL(O:aZ W){c:aY}{fI fB cc cda:Addr}{fd fdB:dv}{params:List Str}{p0 p1 apos ap pos sp:ax}{sts stsB:List aC}{tl:List (Str×Str)}(Y:tR W c fI fB cc cda fd fdB params p0 p1 apos ap pos sp sts stsB tl)
  (args:List PV) (hlen:args.length=params.length):f8 W n (.ref (W.clsA c)) args (.ok (tS c params tl args)):=λA l s X vs R ra hne hd hu Q E F=>by
 have hrl:(904:Nat)<recursionLimit:=by decide+kernel
 have hdep:A.depth+4<recursionLimit:=DR ‹_› ‹_› (by rfl)
 have I:=R.inv
 have KI:W.K.In s.heap:=I.kin O
 have hlv:vs.length=params.length:=by rw[ra.length,hlen]
 refine xE Y.cls λcd hcd=> ?_
 obtain⟨hh,g,dr,tk,os⟩:=s
 refine jp (make_core (rest:=vs) (kw:=[]) (init:= .ref fI) (makes_of KI Y.makes) (looks_findIn KI Y.init) (λself=>bind_fn KI self Y.initF) (.inl rfl) ?_)
 have k1:∀b o,hh.get? b=some o->((hh.push emptyDict).push (instObj (W.clsA c) hh.objs.size)).get? b=some o:=λb o e=>bX _ (bX _ e)
 have hx1:((hh.push emptyDict).push (instObj (W.clsA c) hh.objs.size)).get? (hh.objs.size+1)=some (instObj (W.clsA c) hh.objs.size):=by heap_get
 have hd1:((hh.push emptyDict).push (instObj (W.clsA c) hh.objs.size)).get? hh.objs.size=some (dictOf [] 0):=by heap_get
 have hw:(Code.builtin "type.__call__" ⟨.ref (W.clsA c)::vs,[]⟩).weight=1:=rfl
 generalize hh1:(hh.push emptyDict).push (instObj (W.clsA c) hh.objs.size)=h1 at k1 hx1 hd1 ⊢
 have sz1:h1.objs.size=hh.objs.size+2:=by rw[<-hh1,jn,jn]
 refine ay Y.D.at_ λoI hoI hoId=> ?_
 have st1:W.base.StaysIn h1:=λb o e=>k1 b o (I.stays b o e)
 have hz:((aa "self" ::params).zip (.ref (hh.objs.size+1)::vs)).map (·.1)=aa "self" ::params:=tO (by simp[hlv])
 refine ks_codeAny_call_defAt (s:=⟨h1,g,dr,tk,os⟩) (by show A.depth+Code.weight _<recursionLimit;rw[hw];exact wM (j:=1) hdep rfl) (st1 _ _ hoI) hoId (O.nolimit.keeps st1) (Y.D.rec_.keeps st1) Y.D.body (Y.D.bind _ (.ref (hh.objs.size+1)::vs) st1 (by simp[hlv])).of Y.D.nocell (λx hx=>Y.D.local_ x.1 (hz▸lp hx)) (λh₀ hns keep=> ?_) Y.D.co Y.D.gen Y.D.kind
 generalize hL:(⟨h1,g,dr,tk,os⟩:ah).heap.objs.size=L at hns
 have hL':h1.objs.size=L:=hL
 have nin:interactive (callEnv fd L fI)=false:=by
  show((callEnv fd L fI).scope.kind==_&&_)=false
  rw[show(callEnv fd L fI).scope.kind= .function from Y.D.kind];rfl
 have keep2:∀b o,hh.get? b=some o->h₀.get? b=some o:=λb o e=>keep b o (k1 b o e)
 have F2:Fr hh L h₀ (λx=>((aa "self" ::params).zip (.ref (hh.objs.size+1)::vs)).reverse.lookup x):=⟨hns,keep2,sj sz1 hL'⟩
 have K2:W.K.In h₀:=KI.keeps keep2
 have mv:∀y,((aa "self" ::params).zip (.ref (hh.objs.size+1)::vs)).reverse.lookup y=((aa "self" ::params).zip (.ref (hh.objs.size+1)::vs)).lookup y:=λy=>tN (by rw[hz];exact Y.D.nodup)
 have m_self:((aa "self" ::params).zip (.ref (hh.objs.size+1)::vs)).reverse.lookup (aa "self")=some (.ref (hh.objs.size+1)):=by rw[mv,mF,ca,beq_self_eq_true]
 have m_par:∀y∈params,∃v,((aa "self" ::params).zip (.ref (hh.objs.size+1)::vs)).reverse.lookup y=some v/\ Rep W X hh v (((params.zip args).lookup y).getD .none):=λy hy=>by
  refine ay (Ho ra hlv hy) λv e1 e2=> ?_
  refine⟨v,?_,e2⟩
  have hne':(y==aa "self")=false:=gq λq=>(Dj.mp Y.D.nodup).1 (q▸hy)
  rw[mv,mF,ca,hne']
  exact e1
 refine eR Y.self1 λar har har' => ?_
 refine rL Y.file λocd cvs file tf hcd1 hcd2 hcd3 hcd4=> ?_
 have st2:W.base.StaysIn h₀:=λb o e=>keep b o (st1 b o e)
 have hx2:=keep _ _ hx1
 have hd2:=keep _ _ hd1
 have I2:InstAt h₀ (hh.objs.size+1) (instObj (W.clsA c) hh.objs.size) (W.clsA c) (some (dictOf [] 0)):=⟨hx2,rfl,rfl,hd2⟩
 obtain⟨oD,hD1,hD2⟩:∃oD,h₀.get? (W.clsA c)=some oD/\ oD.data= .cls cd:=by
  unfold clsIn at hcd
  split at hcd
  ·rename_i c' d' cd' sl ho
   obtain rfl:=aq hcd
   exact⟨_,K2 _ _ ho,rfl⟩
  ·exact al hcd
 have hsub:Looks W.M h₀ (isSubtype (.ref (W.clsA c)) (.ref (W.clsA c))) true:=looks_mroIn K2 Y.sub
 show Dk W.M _ (.func _ (callEnv fd L fI)) (execs _ (callEnv fd L fI)) _ _ ⟨h₀,g,dr,tk+_,os⟩
 refine ks_wpAt_execs_cons (ks_wpAt_Expr_any (Hp rfl (by simp) Y.line ?_) nin rfl)
 refine ks_wpAt_super_base (env:=callEnv fd L fI) Y.nsuper Y.ncls (by decide+kernel) rfl (st2 _ _ hoI) hoId har Y.code (st2 _ _ hcd1) hcd2 hcd3 hcd4 Y.top ?_
 refine ks_loadName_global Y.D.kind Y.nsuper (loadGlobal_builtin (env:=callEnv fd L fI) (mg:=W.mg) (mb:=W.mb) (by show h₀.Ns fd.globals _;rw[Y.D.globals];exact O.g.keeps st2) (O.nogl _ (by decide+kernel)) (by show h₀.Ns fd.builtins _;rw[Y.D.builtins];exact O.b.keeps st2) ((O.mbv _ (by decide+kernel)).trans (by kernel_rfl)) ⟨rfl,?_⟩)
 refine wpAny_loadName_free Y.D.kind Y.ncls (by show fd.closure.lookup _=_;rw[Y.clos];rfl) (Y.cell.keeps st2) ?_
 refine dI Y.D.kind (Y.D.local_ _ (by rw[har'];exact fO ..)) F2.ns (by rw[har'];exact m_self) ?_
 refine ks_wpAny_isType_cls hD1 hD2 ⟨rfl,?_⟩
 refine ks_wpAny_call_super hD1 hD2 hx2 rfl (λc e=>by cases e) hsub (λh3 hso k3=> ?_)
 intro pl
 have st3:W.base.StaysIn h3:=λb o e=>k3 _ _ (st2 b o e)
 have K3:W.K.In h3:=K2.keeps k3
 obtain⟨ofB,hofB,hofBc⟩:∃of,h3.get? fB=some of/\ of.cls= .type "function" :=by
  have ht':(W.K.lookup fB).map (·.cls)=some (.type "function"):=Y.upF
  cases z:W.K.lookup fB with
  |none=>rw[z]at ht';cases ht'
  |some of=>rw[z]at ht';exact⟨of,K3 _ _ z,vF ht'⟩
 have hup:alongIn W.K (aa "__init__") ((cd.mro.dropWhile (· != .ref (W.clsA c))).drop 1)=some (some (.ref fB)):=by
  have:=Y.up
  unfold wj at this
  rw[hcd]at this
  exact this
 refine ks_wpAny_getMethod_super hso (looks_opaque K3 Y.noany) (l₀:=cd.mro) (λA Q E s k q=>aJ ((looks_clsIn K3 hcd) A _ E s k (bj q))) rfl K3 hup hofB hofBc (ks_ne K2 I2 hcd) (by decide+kernel) ?_
 have k4:∀b o,h3.get? b=some o->(h3.push {cls:= .type "method",data:= .fields #[.ref fB, .ref (hh.objs.size+1)]}).get? b=some o:=λb o e=>bX _ e
 have hq4:(h3.push {cls:= .type "method",data:= .fields #[.ref fB, .ref (hh.objs.size+1)]}).get? h3.objs.size=some (methodObj (.ref fB) (.ref (hh.objs.size+1))):=Heap.get?_push_at rfl rfl
 generalize hh4:h3.push {cls:= .type "method",data:= .fields #[.ref fB, .ref (hh.objs.size+1)]}=h4 at k4 hq4 ⊢
 have k24:∀b o,h₀.get? b=some o->h4.get? b=some o:=λb o e=>k4 b o (k3 b o e)
 have F4:Fr hh L h4 (λx=>((aa "self" ::params).zip (.ref (hh.objs.size+1)::vs)).reverse.lookup x):=⟨hns.keeps k24,λb o e=>k24 b o (keep2 b o e),F2.above⟩
 have K4:W.K.In h4:=K2.keeps k24
 refine ay (m_par _ Y.arr) λva hva rva=> ?_
 refine callWith_of (P:=λh=>h.get? h3.objs.size=some (methodObj (.ref fB) (.ref (hh.objs.size+1)))/\ W.K.In h) (by simp[et]) (λh p=>keeps_M (K:=W.K) Y.upD h ⟨p.1,p.2⟩) ?_
 refine Calls.evalArgs_plain (Calls.spliced_cons (dO (dI Y.D.kind (Y.D.local_ _ (.tail _ Y.arr)) F4.ns hva (Calls.spliced_nil ⟨⟨hq4,K4⟩,?_⟩)) (by decide+kernel)))
 refine jp (method_call hq4 ?_)
 refine ay Y.DB.at_ λoB hoB hoBd=> ?_
 have st4:W.base.StaysIn h4:=λb o e=>k24 _ _ (st2 b o e)
 have hzB:((["self", "arrlist"]:List Str).zip [.ref (hh.objs.size+1),va]).map (·.1)=(["self", "arrlist"]:List Str):=rfl
 refine rG (binds:=(["self", "arrlist"]:List Str).zip [.ref (hh.objs.size+1),va]) (by show A.depth+Code.weight _+1<recursionLimit;rw[hw];exact wM (j:=2) hdep rfl) (st4 _ _ hoB) hoBd (O.nolimit.keeps st4) (Y.DB.rec_.keeps st4) Y.DB.body (Y.DB.bind _ [.ref (hh.objs.size+1),va] st4 rfl).of Y.DB.nocell (λx hx=>Y.DB.local_ x.1 (hzB▸lp hx)) (λh5 hns5 keep5=> ?_) Y.DB.co Y.DB.gen Y.DB.kind
 have k25:∀b o,h₀.get? b=some o->h5.get? b=some o:=λb o e=>keep5 b o (k24 b o e)
 refine gC hns λoL esL epL hoL hoLd hoLr=> ?_
 have hxne:hh.objs.size+1≠hh.objs.size:=Nat.succ_ne_self _
 have ltx:hh.objs.size+1<h4.objs.size:=eA (k24 _ _ hx2)
 have ltL:L<h4.objs.size:=eA (k24 _ _ hoL)
 have nh:∀b,hh.objs.size<=b->hh.get? b=none:=λb hb=>dP hb
 refine yK (env:=callEnv fdB h4.objs.size fB) (X:=X) (sf:=hh) (L:=h4.objs.size) (x:=hh.objs.size+1) (d:=hh.objs.size) (C:=W.clsA c) (m:=λx=>((["self", "arrlist"]:List Str).zip [.ref (hh.objs.size+1),va]).reverse.lookup x) KI Y.DB.kind rfl (by kernel_rfl) (Y.DB.local_ (aa "self") (by decide)) Y.setattr Y.over (O.hdict c) hxne Y.taker
  (look:=λy=>((params.zip args).lookup y).getD .none) stsB _ Y.iniB [] 0 [] [(L,oL)] _ ⟨hns5,λb o e=>k25 b o (keep2 b o e),ao (sj sz1 hL') (fM ltL)⟩ (λp hp=> ?_) .nil (λp hp=> ?_) (λq hq=> ?_) ?_ (by decide) _ _ (λh6 tk6 es6 n6 F6 N6 R6=> ?_)
 ·simp only[bR,eQ,or_false]at hp
  rcases hp with rfl|rfl|rfl
  ·exact⟨k25 _ _ hx2,by show hh.objs.size+1≠_;exact eZ (vC (oY sz1 hL') ltL),nh _ (by show hh.objs.size<=hh.objs.size+1;exact mG _)⟩
  ·exact⟨k25 _ _ hd2,by show hh.objs.size≠_;exact eZ (dt (sj sz1 hL') ltL),nh _ (bO _)⟩
  ·exact⟨k25 _ _ hoL,by show L≠_;exact eZ ltL,nh _ F2.above⟩
 ·simp only[bR,eQ,or_false]at hp
  subst hp
  show L≠hh.objs.size
  exact mB (q8 (oY sz1 hL'))
 ·simp only[bR,eQ,or_false]at hq
  subst hq
  exact⟨by simp[dL],Y.DB.local_ _ (by decide),va,by kernel_rfl,rva⟩
 ·simp
 have hL6:h6.get? L=some oL:=(N6 (L,oL) (.tail _ (.tail _ (.head _)))).1
 have F7:Fr hh L h6 (λx=>((aa "self" ::params).zip (.ref (hh.objs.size+1)::vs)).reverse.lookup x):=⟨⟨oL,esL,epL,hL6,hoLd,hoLr⟩,F6.keep,F2.above⟩
 refine Pi ?_
 refine yK (env:=callEnv fd L fI) (X:=X) (sf:=hh) (L:=L) (x:=hh.objs.size+1) (d:=hh.objs.size) (C:=W.clsA c) (m:=λx=>((aa "self" ::params).zip (.ref (hh.objs.size+1)::vs)).reverse.lookup x) KI Y.D.kind rfl m_self (Y.D.local_ (aa "self") (fO ..)) Y.setattr Y.over (O.hdict c) hxne Y.taker
  (look:=λy=>((params.zip args).lookup y).getD .none) sts tl Y.ini es6 n6 _ [] _ F7 (λp hp=> ?_) R6 (λp hp=>nomatch hp) (λq hq=> ?_) ?_ ?_ _ _ (λh8 tk8 es8 n8 F8 N8 R8=> ?_)
 ·simp only[bR,eQ,or_false]at hp
  rcases hp with rfl|rfl
  ·exact⟨(N6 _ (.head _)).1,by show hh.objs.size+1≠L;exact eZ (oY sz1 hL'),nh _ (by show hh.objs.size<=hh.objs.size+1;exact mG _)⟩
  ·exact⟨(N6 _ (.tail _ (.head _))).1,by show hh.objs.size≠L;exact eZ (q8 (oY sz1 hL')),nh _ (bO _)⟩
 ·refine xA (Y.from_ q hq) λy1 y2=> ?_
  refine ay (m_par _ y2) λv e1 e2=> ?_
  exact⟨y1,Y.D.local_ _ (.tail _ y2),v,e1,e2⟩
 ·simpa using Y.nd
 ·have:=Y.short
  have:es6.length=1:=by
   have:∀{es:List eO} {fs:List (Str×PV)},dg W X hh es fs->es.length=fs.length:=λ{es fs} r=>by
    induction es generalizing fs with
    |nil=>cases r;rfl
    |cons e es ih=>cases r with|cons _ r=>simp[ih r]
   rw[this R6];rfl
  exact this▸ao (ey Y.short 1) (bz rfl)
 ·have af:After W X ⟨hh,g,dr,tk,os⟩ {(⟨hh,g,dr,tk,os⟩:ah)with heap:=h8,toks:=tk8}:=After.of_keeps I F8.keep
  refine⟨rfl,F.1 _ _ _ rfl af ?_⟩
  have nX:∀b,hh.objs.size<=b->¬X b:=λb hb hX=>by
   refine xE (R.xlt b hX) λo e=> ?_
   rw[show(⟨hh,g,dr,tk,os⟩:ah).heap=hh from rfl,nh b hb]at e;exact al e
  exact .inst (N8 _ (.head _)).1 (N8 _ (.tail _ (.head _))).1 (nX _ (mG _)) (nX _ (bO _)) (R8.mono (λb o ø e=>F8.keep b o e) λø ø ø nx=>nx)
end
end
section
structure tT(W:Wd)(cP cT:Addr):Prop where
 value:W.excA .value= .type "ValueError"
 parse:W.excA .parse= .ref cP
 abi:W.excA .abi= .ref cT
 ownP:OwnCls "ParseError" cP [.type "Exception", .type "BaseException", .type "object"] "Exception.__new__" W.mg W.base
 ownT:OwnCls "ABITypeError" cT [.type "ValueError", .type "Exception", .type "BaseException", .type "object"] "ValueError.__new__" W.mg W.base
 exm:∀c d b,jA (match d with| .parse=>aa "ParseError" | .value=>aa "ValueError" | .abi=>aa "ABITypeError") c=some b->exmOne W.K (W.excA c) (W.excA d)=some b
section
variable{W:Wd}{cP cT:Addr}{A:aA}{env:av}{s:ah}
theorem jI(O:aZ W)(I:Inv W s){x:Str}{p:ax}{v:ae}{Q E:ae->ah->Prop}(hs:env.scope.kind= .function)(hk:env.kindOf x=some .globalImplicit)(hg:env.globals=mainGlobals)(hd:(x==("__debug__" :Str))=false) (hv:W.mg x=some v) (h:Q v s):
  wpAny W.M A (eval (.Name x p) env) Q E s:=Calls.Name_function_global hs hk (Calls.loadGlobal_global (hg▸I.g O) hv h) hd
theorem kH(O:aZ W)(I:Inv W s){x:Str}{p:ax}{v:ae}{Q E:ae->ah->Prop}(hs:env.scope.kind= .function)(hk:env.kindOf x=some .globalImplicit)(hg:env.globals=mainGlobals)(hb:env.builtins=builtinsNs)(hd:(x==("__debug__" :Str))=false) (hm:W.mg x=none) (hv:W.mb x=some v) (h:Q v s):
  wpAny W.M A (eval (.Name x p) env) Q E s:=Calls.Name_function_global hs hk (Calls.loadGlobal_builtin (hg▸I.g O) hm (hb▸I.b O) hv h) hd
theorem yM(O:aZ W){B newId initId:String}{bm:List ae}(FB:ExcBaseFacts B newId initId bm){x:Str}{C:Addr}(W0:OwnCls x C bm newId W.mg W.base){np cpos pos:ax}{e:ai}{Q:cJ->ah->Prop}{E:ae->ah->Prop}
  (hh:A.handled=none) (hs:env.scope.kind= .function) (hk:env.kindOf x=some .globalImplicit) (hg:env.globals=mainGlobals) (hstar:bv [e]=true) (hd:(x==("__debug__" :Str))=false) (I:Inv W s)
  (h:wpAny W.M A (eval e env) (λv s₁=>Inv W s₁/\ ∃x t,v= .str x t/\ ∀h' tk ev,wb s₁.heap h' ev (.ref C) [.str x t]->E (.ref ev) {s₁ with heap:=h',toks:=tk}) E s):
  wpAny W.M A (exec (.Raise (some (.Call (.Name x np) [e] [] cpos)) none pos) env) Q E s:=by
 refine DG W0.obj λtl N nm q bs hdct sn sub ab col dd k0 k1 k2 k3 k5 mN hC hN hni T=> ?_
 refine wpAny_Raise_call_subT (C:=C) (nm:=nm) (q:=q) (N:=N) (bs:=bs) (bm:=tl) (hdct:=hdct) (sn:=sn) (sub:=sub) (ab:=ab) (col:=col) (dd:=dd) (k0:=k0) (k1:=k1) (k2:=k2) (k3:=k3) (k5:=k5)
  FB (mN:=mN) (T.hasType FB.hasBase) hh (by rw[dS cpos hstar];exact nq _) hni (jI O I hs hk hg hd W0.bound ⟨rfl,?_⟩)
 rw[dS cpos hstar]
 refine Calls.evalArgs_plain (Calls.spliced_cons (fL h (λv s₁ h₁=>Calls.spliced_nil ?_) λø ø y=>y))
 obtain⟨I₁,y,t,rfl,h₁⟩:=h₁
 exact⟨rfl,by show 1<=sizeLine;decide+kernel,I₁.stays _ _ hC,hN.keeps I₁.stays,T.keeps I₁.stays,λh' e hm=>h₁ h' s₁.toks e hm⟩
theorem Hq(O:aZ W)(Z:tT W cP cT):kG W where
 rais:=λA env s f c np cpos pos e Q E hx hh hs hk hg hb hstar I h=>by
  unfold jz at hx
  split at hx
  ·rename_i q
   subst q;obtain rfl:=aq hx
   rw[Z.parse]at h
   exact yM O PySem.F.excBase_Exception Z.ownP hh hs hk hg hstar (by decide+kernel) I h
  ·split at hx
   ·rename_i q
    subst q;obtain rfl:=aq hx
    rw[Z.value]at h
    refine Raise_madeB PySem.F.excCall_ValueError PySem.F.excRaise_ValueError hh (kH O I hs hk hg hb (by decide+kernel) (O.nogl _ (by decide+kernel)) ((O.mbv _ (by decide+kernel)).trans PyProof.Rows.Boot.«ValueError») ⟨rfl,?_⟩) (by rw[tA hstar];simp[bv]at hstar;rfl)
    rw[dS cpos hstar]
    refine Calls.spliced_cons (fL h (λv s₁ h₁=>Calls.spliced_nil ?_) λø ø y=>y)
    obtain⟨I₁,y,t,rfl,h₁⟩:=h₁
    exact⟨by show 1<=sizeLine;decide+kernel,λh' e hm=>h₁ h' s₁.toks e ⟨hm.keeps,hm.new,hm.there⟩⟩
   ·split at hx
    ·rename_i q
     subst q;obtain rfl:=aq hx
     rw[Z.abi]at h
     exact yM O PySem.F.excBase_ValueError Z.ownT hh hs hk hg hstar (by decide+kernel) I h
    ·exact al hx
theorem Hr(O:aZ W)(Z:tT W cP cT):pI W:=λA env s t c b e oe np pos b₀ suite rest Q E ht hs hk hg hb I he hc h=>by
 have key:∃d,exmOne W.K (W.excA c) (W.excA d)=some b/\ ∀(Q' E':ae->ah->Prop) (A':aA),Q' (W.excA d) s->wpAny W.M A' (eval (.Name t np) env) Q' E' s:=by
  have h3:=ht
  unfold jA at h3
  split at h3
  ·rename_i q
   subst q
   exact⟨.parse,Z.exm c .parse b ht,λQ' E' A' k=>jI O I hs hk hg (by decide+kernel) (Z.ownP.bound.trans (by rw[Z.parse])) k⟩
  ·split at h3
   ·rename_i q
    subst q
    exact⟨.value,Z.exm c .value b ht,λQ' E' A' k=>kH O I hs hk hg hb (by decide+kernel) (O.nogl _ (by decide+kernel)) ((O.mbv _ (by decide+kernel)).trans (PyProof.Rows.Boot.«ValueError».trans (by rw[Z.value]))) k⟩
   ·split at h3
    ·rename_i q
     subst q
     exact⟨.abi,Z.exm c .abi b ht,λQ' E' A' k=>jI O I hs hk hg (by decide+kernel) (Z.ownT.bound.trans (by rw[Z.abi])) k⟩
    ·exact al h3
 obtain⟨d,hx,load⟩:=key
 refine wpAny_handleBy_cons (codeAny_handlers_test (load _ _ _ ?_)) (by intro q;cases q)
 have LT:Looks W.M s.heap (typeOf (.ref e)) (W.excA c):=hc▸(Looks.ld (part:=none) he).andThen .now
 refine(exm_one (I.kin O) LT hx).here ?_
 cases b with
 |true=>rw[if_pos rfl]at h;exact codeAny_handlers_suite h
 |false=>rw[if_neg (by decide)]at h;exact h
end
end
section
section
variable{W:Wd}{X:Addr->Prop}{A:aA}{s:ah}{l:List av}{n:Nat}{c:aY}
theorem Ready.in1(R:Ready W X A l s):Ready W X A.in1 l s:=⟨R.inv,R.frames,R.guards,R.handled,R.below,R.xtabs,R.xbase,R.xlt⟩
theorem Hs(O:aZ W){m:Str}{f:Addr}(hf:findIn W.K (.ref (W.clsA c)) m=some (some (.ref f)))(ht:typeIn W.K (.ref f)=some (.type "function")) (A:aA) (E:ae->ah->Prop) (s:ah) (x d:Addr) (es:List eO) (k:Nat) (pl:Sem Bool) (P:ae×List ae->ah->Prop) (I:Inv W s)
  (e1:s.heap.get? x=some (instObj (W.clsA c) d)) (e2:s.heap.get? d=some (dictOf es k)) (hs:shadowIn (some (dictOf es k)) m=some false) (h:P (.ref f,[.ref x]) s):wpAny W.M A (getMethod (.ref x) m pl) P E s:=
 method_fn (I.kin O) (kz e1 e2) (O.ga c) (plainGet_of (O.pget c)).2 hf ht hs h
theorem Ht(O:aZ W)(I:Inv W s){e:Addr}{oe:Obj}{cls o nm:ae}(he:s.heap.get? e=some oe)(hc:oe.cls=cls)(hs:subIn W.K cls (.type "AttributeError")=some false) {Q:Unit->ah->Prop} {E:ae->ah->Prop} (h:Q () s):
  wpAny W.M A (noteIf true o nm (.ref e)) Q E s:=by
 have L:Looks W.M s.heap (isInstance (.ref e) (.type "AttributeError")) false:=((Looks.ld (part:=none) he).andThen .now).andThen (by rw[hc];exact looks_subIn (I.kin O) hs)
 have L2:Looks W.M s.heap (lacksNameAndObj (.ref e)) false:=by
  intro A Q E s' k q
  unfold lacksNameAndObj
  refine aJ ((L.keeps k).here ?_)
  exact bj q
 show wpAny W.M A (noteAttr (.ref e) o nm) Q E s
 unfold noteAttr
 refine aJ (L2.here ?_)
 exact bj h
theorem Hu(O:aZ W)(hatt:∀c,subIn W.K (W.excA c) (.type "AttributeError")=some false) {a:Str} {p fget:Addr} {rest:List ae} (ha:findIn W.K (.ref (W.clsA c)) a=some (some (.ref p))) (hn:specialIn W.K (.ref p) "__get__" =some (some (.builtin "property.__get__"))) (ht:takesIn W.K (.ref p)=some true)
  (hp:recIn W.K p "property" =some (.ref fget::rest)) {fs:List (Str×PV)} {r:Res PV} (hK:gb W n (.ref fget) [.inst c fs] r) {va:ae} (R:Ready W X A l s) (ra:Rep W X s.heap va (.inst c fs)):SC W X l (RV W X) (n+1) A (getAttr va a true) s r:=λhne hd hu Q E F=>by
 refine ra.instE λx d es k zq4 e1 e2 n1 n2 fl=> ?_;subst zq4
 have I:=R.inv
 refine ay (O.cd c) λcd hcd hhd=> ?_
 refine get_bind (I.kin O) (kz e1 e2) (O.ga c) (findObj_data (by rw[hcd];rfl) ha hn ht) (plainGet_of (O.pget c)).2 (jp (prop_get (s:={s with toks:=s.toks+1}) ((After.tok (X:=X) (tk:=s.toks+1) I).inv.kin O) hp ?_))
 have af:After W X s {s with toks:=s.toks+1}:=After.tok I
 have R':Ready W X A.in1 l {s with toks:=s.toks+1}:=(R.after af).in1
 refine codeAny_mono (hK A.in1 l _ X [.ref x] R' (.cons (af.rep ra) .nil) hne (by show A.depth+n<=900;exact fM ‹_›) (by show A.units+1+10*n<=9000;exact lz ‹_› (by rfl)) (λv s' =>wpAny W.M A (handedOut v) Q E s') (λe s' =>wpAny W.M A (noteIf true (.ref x) (.str a s.toks) e) (λø s'' =>E e s'') E s') ⟨λv q s' e a' rq=> ?_,λe c s' hr fl' => ?_⟩) (λr s' z=> ?_)
 ·show wpAny W.M A (handedOut v) Q E s'
  rw[handedOut_of (yb rq)]
  exact bj (F.1 v q s' e (af.trans a') rq)
 ·obtain⟨zn1,h5⟩:=id fl'
  refine mK zn1 λB a0 h1 h12 hs h2 h3 h4=> ?_
  refine ay h4.there λoe he hc=> ?_
  exact Ht O fl'.after.inv he hc (hatt c) (F.2 e c s' hr (fl'.before af))
 ·rcases r with e|(v|_|_|_)<;>first|exact z|exact z.elim
end
end
section
noncomputable def nv:aC:=(aS (am (ag 12) 1)).headD default
noncomputable def Hv(st:aC):ai:=match st with
 | .Return e _=>e.getD default
 |_=>default
noncomputable def Hw(e:ai):ai:=match e with
 | .BoolOp _ vs _=>(vs[1]?).getD default
 |_=>default
noncomputable def lQ:ai:=Hw (Hv nv)
theorem Hx:∃tp ap cp tp' bp cp' cpos bpos rpos,nv= .Return (some (.BoolOp .And [.Compare (.Call (.Name (aa "type") tp) [.Name (aa "self") ap] [] cp) [.Is] [.Call (.Name (aa "type") tp') [.Name (aa "other") bp] [] cp'] cpos,lQ] bpos)) rpos:=⟨_,_,_,_,_,_,_,_,_,rfl⟩
noncomputable def nw(v:PV):Option aY:=match v with
 | .inst c _=>some c
 |_=>none
theorem yN{v:PV}{c:aY}(h:nw v=some c):∃fs,v= .inst c fs:=by
 cases v with
 |inst d fs=>obtain rfl:=aq h;exact⟨fs,rfl⟩
 |_=>exact al h
noncomputable def Hy(E:Ev)(sc:Scope)(ρ:aj)(c d:Option aY):aB:=match c with
 |none=> .stuck
 |some c=>match d with
  |none=> .stuck
  |some d=>if c=d then aW (E.ev sc lQ ρ) ρ λv=> .ret v else .ret (.bool false)
open Classical in
noncomputable def ny(E:Ev):Scope->aC->aj->aB:=λsc st ρ=>
 if st=nv/\ cf sc (aa "type")=true then Hy E sc ρ ((ρ.lookup (aa "self")).bind nw) ((ρ.lookup (aa "other")).bind nw)else .stuck
section
variable{g:Bool}{W:Wd}{X:Addr->Prop}{A:aA}{s:ah}{l:List av}{n:Nat}{sc:Scope}{env:av}{ρ:aj}{E₀:Ev}
theorem Hz(O:aZ W):W.clsA .tup≠W.clsA .bas:=λe=>by
 have h1:=O.kit .tup .tup
 have h2:=O.kit .tup .bas
 rw[<-e,h1]at h2
 cases aq h2
set_option tactic.hygienic true in
theorem yO(O:aZ W)(I:Inv W s)(c:aY):∃o cd,s.heap.get? (W.clsA c)=some o/\ o.data= .cls cd:=by
 refine ay (O.cd c) λcd hc ø=> ?_
 unfold clsIn at hc
 split at hc
 ·rename_i c' d' cd' sl ho
  exact⟨_,cd',I.kin O _ _ ho,rfl⟩
 ·exact al hc
theorem HA(O:aZ W)(I:Inv W s){c d:aY}{Q E:ae->ah->Prop}(h:Q (.bool (c==d)) s):wpAny W.M A (compareOp .Is (.ref (W.clsA c)) (.ref (W.clsA d))) Q E s:=by
 show wpAny W.M A (do return ae.bool (<-isSame (.ref (W.clsA c)) (.ref (W.clsA d)))) Q E s
 by_cases e:c=d
 ·subst e
  have h:Q (.bool true) s:=by simpa using h
  exact aJ (wpAny_isSame_ref_self (bj h))
 ·have e1:W.clsA c≠W.clsA d:=λz=>by
   have:=Hz O
   cases c<;>cases d<;>first|exact e rfl|exact this z|exact this z.symm
  have e2:(c==d)=false:=by cases c<;>cases d<;>first|rfl|exact absurd rfl e
  rw[e2]at h
  refine dR (yO O I c) λoc cc h1 h2=> ?_
  refine dR (yO O I d) λod cd h3 h4=> ?_
  unfold isSame
  refine aJ ?_
  dsimp only
  rw[if_neg (by simpa using e1)]
  refine aJ (wpAny_load h1 (aJ (wpAny_load h3 ?_)))
  split
  ·rename_i q1 q2
   rw[h2]at q1;cases q1
  ·exact bj (bj h)
theorem yP(O:aZ W)(H:Here g W X A l s sc env ρ){a:Str}{p q pos:ax}{c:aY}{fs:List (Str×PV)}(hg:cf sc (aa "type")=true) (ha:ρ.lookup a=some (.inst c fs)) (hd:a≠aa "__debug__") {Q E:ae->ah->Prop} (h:Q (.ref (W.clsA c)) s):
  wpAny W.M A (eval (.Call (.Name (aa "type") p) [.Name a q] [] pos) env) Q E s:=by
 refine dJ H.loc λø m hn hl=> ?_
 refine ay (hl a _ ha) λw e1 e2=> ?_
 refine gA rfl ?_
 rw[dS pos (show bv [jk a q]=true from rfl)]
 refine kA O H (iY H hg) (by decide+kernel) (O.nogl _ (by simp[blt])) ((O.mbv _ (by decide+kernel)).trans (by kernel_rfl:bootBuiltins "type" =some (.type "type"))) ?_
 refine go (W:=W) "type" A E s pos [] _ Q rfl (Calls.evalArgs_plain (Calls.spliced_cons ?_))
 refine dO (dI H.envk.scope (H.envk.names _ _ (H.kinds a _ ha) (by decide) (by decide)) hn e1 ?_) (gq hd)
 cases e2 with
 | @inst x d _ es k _ h1 h2 n1 n2 fl=>exact Calls.spliced_nil ⟨H.ready.inv,kto_own (kz h1 h2) h⟩
theorem HB(hE:aM g W n E₀):fu g W n (ny E₀):=λK sc st X C A l sf env ρ s B a hne hd hu Q E F=>by
 unfold ny at hne F
 by_cases hc:st=nv/\ cf sc (aa "type")=true
 ·rw[if_pos hc]at hne F
  refine xA hc λzq0 hg=> ?_;subst zq0
  cases e1:(ρ.lookup (aa "self")).bind nw with
  |none=>rw[e1]at hne;exact absurd rfl hne
  |some c=>
   cases e2:(ρ.lookup (aa "other")).bind nw with
   |none=>rw[e1,e2]at hne;exact absurd rfl hne
   |some d=>
    rw[e1,e2]at hne F
    have hne:(if c=d then aW (E₀.ev sc lQ ρ) ρ λv=> .ret v else .ret (.bool false))≠aB.stuck:=hne
    have F:cL K W X C l sf sc (if c=d then aW (E₀.ev sc lQ ρ) ρ λv=> .ret v else .ret (.bool false)) Q E:=F
    refine bl e1 λv1 z1 e1=> ?_
    refine bl e2 λv2 z2 e2=> ?_
    refine xE (yN e1) λfs zq1=> ?_;subst zq1
    refine xE (yN e2) λgs zq1=> ?_;subst zq1
    have H:=B.here a
    have O:=B.O
    refine DA Hx λtp ap cp tp' bp cp' cpos bpos rpos ef=> ?_
    rw[ef]
    refine il (BoolOp_and (C' (hm:=rfl) (yP O H hg z1 (by decide+kernel) (yP O H hg z2 (by decide+kernel) (HA O H.ready.inv (ix ?_))))))
    by_cases q:c=d
    ·subst q
     rw[if_pos rfl]at hne F
     rw[show(c==c)=true by cases c<;>rfl,if_pos rfl]
     exact BoolOp_one ((hE.1 sc lQ X A l s env ρ H).sstep a B.sol hne hd hu F λvb b s₁ ø af a₁ rb ne1 F1=>F1.ret vb b s₁ rfl a₁.M rb)
    ·have e2:(c==d)=false:=by cases c<;>cases d<;>first|rfl|exact absurd rfl q
     rw[if_neg q]at F
     rw[e2,if_neg kd]
     exact F.ret _ _ s rfl a.M (.bool false)
 ·rw[if_neg hc]at hne;exact absurd rfl hne
theorem HC(O:aZ W){f:Addr}(hs:∀c,findIn W.K (.ref (W.clsA c)) "__eq__" =some (some (.ref f))) (hf:typeIn W.K (.ref f)=some (.type "function")) (hfirst:∀c d,notFirst W.K (W.clsA c) (.ref (W.clsA d))=true) {c d:aY} {fs gs:List (Str×PV)} {r:Res PV} (hb:∀v,r= .ok v->∃b,v= .bool b)
  (hK:gb W n (.ref f) [.inst c fs, .inst d gs] r) {va vb:ae} (R:Ready W X A l s) (ra:Rep W X s.heap va (.inst c fs)) (rb:Rep W X s.heap vb (.inst d gs)):SC W X l (RV W X) n A (compareOp .Eq va vb) s r:=λhne hd hu Q E F=>by
 have KI:=R.inv.kin O
 refine ra.instE λx dx es k zq4 e1 e2 n1 n2 fl=> ?_;subst zq4
 refine rb.instE λy dy es' k' zq4 e3 e4 n3 n4 fl' => ?_;subst zq4
 have IA:=kz e1 e2
 have one:wpAny W.M A (tryCompare (.ref x) (cmpInfo .Eq).2.1 (.ref y)) (λr s' =>∃v,r=some v/\ Q v s') E s:=by
  unfold tryCompare
  refine aJ (ifBound_K KI IA (hs c) (beq_iff_eq.mpr hf) (jp (codeAny_mono (hK A l s X [.ref x, .ref y] R (.cons ra (.cons rb .nil)) hne hd hu (λv s' =>∃b,v= .bool b/\ Q v s') E ⟨λv p s' e af rv=> ?_,λe c' s' h fl=>F.2 e c' s' h fl⟩) λr s' z=> ?_)))
  ·refine xE (hb p e) λb zq1=> ?_;subst zq1
   have q:=F.1 v _ s' e af rv
   obtain rfl:=rv.boolI
   exact⟨b,rfl,q⟩
  ·rcases r with e|(v|_|_|_)<;>first|exact z|exact z.elim|skip
   refine ay z λb zq1 z=> ?_;subst zq1
   exact bj ⟨_,rfl,z⟩
 have hc:A.units<cLine:=dt (bk _ 65) (jD (ao (bk _ _) ‹_›))
 show wpAny W.M A (richCompare .Eq (.ref x) (.ref y)) Q E s
 unfold richCompare
 simp only[oneThing_ref]
 refine iM (aJ (wpAny_cRoomFor hc ?_))
 refine aJ (IA.type.here (aJ ((kz e3 e4).type.here ?_)))
 have done:∀{t:Option ae->Sem ae},(∀v s',Q v s'->wpAny W.M A (t (some v)) Q E s')->wpAny W.M A (tryCompare (.ref x) (cmpInfo .Eq).2.1 (.ref y)>>=t) Q E s:=λht=>
  aJ (fL one (λr s' z=>by obtain⟨v,rfl,q⟩:=z;exact ht v s' q) λø ø z=>z)
 split
 ·rename_i q
  have e:subIn W.K (.ref (W.clsA d)) (.ref (W.clsA c))=some false:=by
   refine ck (Bool.or_eq_true_iff.mp (hfirst c d)) (λe=> ?_) (λe=> ?_)
   ·rw[beq_iff_eq.mp e]at q;simp at q
   ·exact beq_iff_eq.mp e
  refine aJ ((looks_subIn KI e).here ?_)
  simp only[oN,if_false]
  exact done λv s' z=>bj z
 ·refine aJ (bj ?_)
  simp only[oN,if_false]
  exact done λv s' z=>bj z
end
end
section
noncomputable def iz(f:List (List Nat))(c:Nat):List (List Nat):=f.dropLast++[f.getLastD []++[c]]
noncomputable def dB(d:Int)(c:Nat):Int:=if c=40 then d+1 else if c=41 then d-1 else d
noncomputable def cM(p:List (List Nat)×Int)(c:Nat):List (List Nat)×Int:=
 let d:=dB p.2 c
 (if c=44/\ d=0 then p.1++[[]]else iz p.1 c,d)
noncomputable def cz(x:List Nat):List (List Nat):=(x.foldl cM ([[]],0)).1
inductive dC:List ae->List (List Nat)->Prop
 |nil:dC [] []
 |cons {y:Str} {k:bE} {vs:List ae} {f:List (List Nat)}:dC vs f->dC (.str y k::vs) (an y::f)
theorem dC.reps{W:Wd}{X:Addr->Prop}{h:Heap}{vs:List ae}{f:List (List Nat)}(r:dC vs f):a8 W X h vs (f.map .str):=by
 induction r with
 |nil=>exact .nil
 |cons _ ih=>exact .cons (.str _ _) ih
theorem dC.len{vs:List ae}{f:List (List Nat)}(r:dC vs f):vs.length=f.length:=by
 induction r with
 |nil=>rfl
 |cons _ ih=>exact congrArg (· +1) ih
theorem dC.push{y:Str}{k:bE}{vs:List ae}{f:List (List Nat)}(r:dC vs f):dC (vs++[.str y k]) (f++[an y]):=by
 induction r with
 |nil=>exact .cons .nil
 |cons _ ih=>exact .cons ih
theorem dC.last{vs:List ae}{f:List (List Nat)}(r:dC vs f)(h:f≠[]):∃ws y k,vs=ws++[.str y k]/\ dC ws f.dropLast/\ f.getLastD []=an y:=by
 induction r with
 |nil=>exact absurd rfl h
 | @cons y k vs f r ih=>
  cases f with
  |nil=>
   cases r
   exact⟨[],y,k,rfl, .nil,rfl⟩
  |cons z f=>
   refine gC (ih (λq=>List.cons_ne_nil _ _ q)) λws z' k' e t l=> ?_
   exact⟨.str y k::ws,z',k',by rw[e];rfl, .cons t,l⟩
section
variable{W:Wd}{X:Addr->Prop}{A:aA}{s:ah}{env:av}{Q:Bool->ah->Prop}{E:ae->ah->Prop}
theorem tU{m:Str->Option ae}{nm x y:Str}{u:bE}{p1 p2 p3:ax}{k:Nat}{wh:Sem ae}(hk:env.scope.kind= .function)(hl:env.kindOf nm=some .local)(hd:(nm==("__debug__" :Str))=false) (hn:s.heap.Ns env.locals m) (hv:m nm=some (.str x u)) (hu:A.units<=9000)
  (h:Q (an x==an y) {s with toks:=s.toks+1}):wpAny W.M A (isTrue (.Compare (.Name nm p1) [.Eq] [.Constant (.str y) k p2] p3) env wh) Q E s:=
 oK (hm:=rfl) (dO (dI hk hl hn hv (kb (ky (W:=W) (X:=λø=>False) (op:= .Eq) (a:= .str (an x)) (b:= .str (an y)) rfl (.str x u) (.str y _) hu (ix h)))) hd)
theorem HD{m:Str->Option ae}{nm:Str}{i j:Int}{u:bE}{p1 p2 p3:ax}{k:Nat}{wh:Sem ae}(hk:env.scope.kind= .function)(hl:env.kindOf nm=some .local)(hd:(nm==("__debug__" :Str))=false) (hn:s.heap.Ns env.locals m) (hv:m nm=some (.int i u)) (hu:A.units<=9000)
  (h:Q (i==j) {s with toks:=s.toks+1}):wpAny W.M A (isTrue (.Compare (.Name nm p1) [.Eq] [.Constant (.int j) k p2] p3) env wh) Q E s:=
 oK (hm:=rfl) (dO (dI hk hl hn hv (d0 (ky (W:=W) (X:=λø=>False) (op:= .Eq) (a:= .int i) (b:= .int j) rfl (.int i u) (.int j _) hu (ix h)))) hd)
theorem HE{x:Str}{t:bE}{Q E:ae->ah->Prop}(h:∀o St,(∀A':aA,A'.handled=none->Walks ig W.w A' s.heap.objs.size [s.heap.objs.size] [s.heap.objs.size] x.cps.size (SignAt x) St)->St 0 (s.heap.push o)->
  (∀i h',St i h'->∃o,h'.get? s.heap.objs.size=some o)->Q (.ref s.heap.objs.size) {s with heap:=s.heap.push o}):wpAny W.M A (pyIter (.str x t)) Q E s:=by
 cases ha:x.cps.all (· <128)
 ·exact wpAny_pyIter_wide ha (h _ (λi h' =>h'.IsStrIter s.heap.objs.size "str_iterator" x t i) (λA' hA=>Walks.strWide hA _ x t) ⟨_,ee _ rfl,rfl,rfl⟩ λi h' st=>let ⟨o,h1,_⟩:=st;⟨o,h1⟩)
 ·exact wpAny_pyIter_ascii ha (h _ (λi h' =>h'.IsStrIter s.heap.objs.size "str_ascii_iterator" x t i) (λA' hA=>Walks.strAscii hA _ x t) ⟨_,ee _ rfl,rfl,rfl⟩ λi h' st=>let ⟨o,h1,_⟩:=st;⟨o,h1⟩)
end
section
variable{W:Wd}{X:Addr->Prop}{A:aA}{env:av}{hh:Heap}{C F:Addr}
structure kJ(env:av)(C:Addr):Prop where
 kind:env.scope.kind= .function
 locals:env.locals=C
 found:env.kindOf (aa "found")=some .local
 depth:env.kindOf (aa "depth")=some .local
 sign:env.kindOf (aa "sign")=some .local
theorem HF(P:kJ env C):(env.scope.kind== .class||(env.scope.kind== .module&&env.locals !=env.globals))=false:=by rw[P.kind];rfl
theorem pJ{s:ah}{m:Str->Option ae}{news:List (Addr×Obj)}(P:kJ env C)(Fr0:Fr hh C s.heap m)(N:eE hh C s.heap news){x:Str}(hx:env.kindOf x=some .local){v:ae}{Q:Unit->ah->Prop}{E:ae->ah->Prop}
  (h:∀h',Fr hh C h' (λy=>if y=x then some v else m y)->eE hh C h' news->(∀b o,b≠C->s.heap.get? b=some o->h'.get? b=some o)->Q () {s with heap:=h',toks:=s.toks+1}):wpAny W.M A (storeName env x v) Q E s:=by
 refine lm hx (by rw[P.locals];exact Fr0.ns) (λh' hn hs=> ?_) (HF P)
 rw[P.locals]at hn hs
 exact h h' (Fr0.set hn hs) (N.set hs) λb o hb e=>(hs.2 b hb).trans e
theorem HG:an (aa "(")=[40]:=by decide+kernel
theorem HH:an (aa ")")=[41]:=by decide+kernel
theorem yQ:an (aa ",")=[44]:=by decide+kernel
theorem yR:an (aa "")=[]:=by decide+kernel
noncomputable def HI:List ax:=[⟨234,4,234,9⟩,⟨234,13,234,15⟩,⟨234,12,234,16⟩,⟨234,4,234,16⟩,⟨235,4,235,9⟩,⟨235,12,235,13⟩,⟨235,4,235,13⟩,⟨236,8,236,12⟩,⟨236,16,236,20⟩,⟨236,4,244,40⟩,⟨237,11,237,15⟩,⟨237,19,237,22⟩,⟨237,11,237,22⟩,⟨238,12,238,17⟩,⟨238,21,238,22⟩,⟨238,12,238,22⟩,⟨237,8,240,22⟩,⟨239,13,239,17⟩,⟨239,21,239,24⟩,⟨239,13,239,24⟩,⟨240,12,240,17⟩,⟨240,21,240,22⟩,⟨240,12,240,22⟩,⟨239,8,240,22⟩,⟨241,11,241,15⟩,⟨241,19,241,22⟩,⟨241,11,241,22⟩,⟨241,27,241,32⟩,⟨241,36,241,37⟩,⟨241,27,241,37⟩,⟨241,11,241,37⟩,⟨242,12,242,17⟩,⟨242,12,242,24⟩,⟨242,25,242,27⟩,⟨242,12,242,28⟩,⟨242,12,242,28⟩,⟨244,12,244,17⟩,⟨244,19,244,20⟩,⟨244,18,244,20⟩,⟨244,12,244,21⟩,⟨244,24,244,29⟩,⟨244,31,244,32⟩,⟨244,30,244,32⟩,⟨244,24,244,33⟩,⟨244,36,244,40⟩,⟨244,24,244,40⟩,⟨244,12,244,40⟩,⟨241,8,244,40⟩,⟨245,11,245,16⟩,⟨245,4,245,16⟩]
noncomputable def pP(n:Nat):ax:=HI.getD n default
noncomputable abbrev tV:aC:=
 .If (.Compare (.Name (aa "sign") (pP 10)) [.Eq] [.Constant (.str (aa "(")) 0 (pP 11)] (pP 12)) [.AugAssign (.Name (aa "depth") (pP 13)) .Add (.Constant (.int 1) 0 (pP 14)) (pP 15)]
  [.If (.Compare (.Name (aa "sign") (pP 17)) [.Eq] [.Constant (.str (aa ")")) 0 (pP 18)] (pP 19)) [.AugAssign (.Name (aa "depth") (pP 20)) .Sub (.Constant (.int 1) 0 (pP 21)) (pP 22)] [] (pP 23)] (pP 16)
theorem HJ{s:ah}{m:Str->Option ae}{news:List (Addr×Obj)}(P:kJ env C)(Fr0:Fr hh C s.heap m)(N:eE hh C s.heap news){c:Nat}{u t:bE}{d:Int}(hs:m (aa "sign")=some (.str ⟨#[c]⟩ u)) (hd:m (aa "depth")=some (.int d t)) (hu:A.units<=9000)
  {Q:cJ->ah->Prop} {E:ae->ah->Prop}
  (h:∀h' tk t' m',Fr hh C h' m'->eE hh C h' news->(∀b o,b≠C->s.heap.get? b=some o->h'.get? b=some o)->m' (aa "depth")=some (.int (dB d c) t')->(∀y,y≠aa "depth" ->m' y=m y)->Q .next {s with heap:=h',toks:=tk}):
  wpAny W.M A (exec tV env) Q E s:=by
 have aug:∀(Q':cJ->ah->Prop),(∀s',Q .next s'->Q' .next s')->∀{op:mx} {f:Int->Int} {s₁:ah} {p1 p2 p3:ax} {k:Nat},s₁.heap=s.heap->s₁={s with toks:=s₁.toks}->f d=dB d c->(∀(Q E:ae->ah->Prop) (s:ah) (t u:bE),Q (.int (f d) s.toks) {s with toks:=s.toks+1}->wpAny W.M A (inplaceOp op (.int d t) (.int 1 u)) Q E s)->
   wpAny W.M A (execs [.AugAssign (.Name (aa "depth") p1) op (.Constant (.int 1) k p2) p3] env) Q' E s₁:=λQ' hQ {op f s₁ p1 p2 p3 k} e e' hf hop=>by
  have F1:Fr hh C s₁.heap m:=e▸Fr0
  have N1:eE hh C s₁.heap news:=e▸N
  refine bT (wpAny_AugAssign_Name (dI P.kind P.depth (by rw[P.locals];exact F1.ns) hd (d0 (hop _ _ _ _ _ ?_))))
  refine pJ (s:={{s₁ with toks:=s₁.toks+1}with toks:=s₁.toks+1+1}) P F1 N1 P.depth λh' F' N' k=> ?_
  have:=h h' (s₁.toks+1+1+1) (s₁.toks+1) _ F' N' (λb o hb q=>k b o hb (by show s₁.heap.get? b=_;rw[e];exact q)) (by rw[if_pos rfl,hf]) (λy hy=>if_neg hy)
  refine dQ (hQ _ ?_)
  rw[e']
  exact this
 refine jq (tU P.kind P.sign (by decide+kernel) (by rw[P.locals];exact Fr0.ns) hs hu ?_)
 rw[HG,show an (⟨#[c]⟩:Str)=[c]from rfl]
 by_cases h1:c=40
 ·rw[show(([c]:List Nat)==[40])=true by rw[h1];rfl,if_pos rfl]
  exact aug Q (λø z=>z) (f:=λd=>d+1) rfl rfl (by show d+1=_;rw[dB,if_pos h1]) (λQ E s t u q=>yG Q E s d t 1 u q)
 ·rw[show(([c]:List Nat)==[40])=false by simp[h1],if_neg (by simp)]
  refine bT (jq (tU P.kind P.sign (by decide+kernel) (by rw[P.locals];exact Fr0.ns) hs hu ?_))
  rw[HH,show an (⟨#[c]⟩:Str)=[c]from rfl]
  by_cases h2:c=41
  ·rw[show(([c]:List Nat)==[41])=true by rw[h2];rfl,if_pos rfl]
   exact aug _ (λø z=>dQ z) (f:=λd=>d-1) rfl rfl (by show d-1=_;rw[dB,if_neg h1,if_pos h2]) (λQ E s t u q=>yH Q E s d t 1 u q)
  ·rw[show(([c]:List Nat)==[41])=false by simp[h2],if_neg (by simp)]
   refine dQ (dQ ?_)
   exact h s.heap _ t m Fr0 N (λb o ø e=>e) (by rw[hd,dB,if_neg h1,if_neg h2]) λy hy=>rfl
end
end
section
section
variable{W:Wd}{X:Addr->Prop}{A:aA}{env:av}{hh:Heap}{C F:Addr}
noncomputable abbrev tW:aC:=
 .If (.BoolOp .And [.Compare (.Name (aa "sign") (pP 24)) [.Eq] [.Constant (.str (aa ",")) 0 (pP 25)] (pP 26), .Compare (.Name (aa "depth") (pP 27)) [.Eq] [.Constant (.int 0) 0 (pP 28)] (pP 29)] (pP 30))
  [.Expr (.Call (.Attribute (.Name (aa "found") (pP 31)) (aa "append") (pP 32)) [.Constant (.str (aa "")) 0 (pP 33)] [] (pP 34)) (pP 35)]
  [.Assign [.Subscript (.Name (aa "found") (pP 36)) (.UnaryOp .USub (.Constant (.int 1) 0 (pP 37)) (pP 38)) (pP 39)] (.BinOp (.Subscript (.Name (aa "found") (pP 40)) (.UnaryOp .USub (.Constant (.int 1) 0 (pP 41)) (pP 42)) (pP 43)) .Add (.Name (aa "sign") (pP 44)) (pP 45)) (pP 46)] (pP 47)
theorem yS(v w:ae):∀ws:List ae,ki_setL (ws++[w]) ws.length v=some (ws++[v])
 |[]=>rfl
 |x::r=>by
  show(match ki_setL (r++[w]) r.length v with|some q=>some (x::q)|none=>none)=_
  rw[yS v w r];rfl
theorem HL{s:ah}{m:Str->Option ae}{ext:List (Addr×Obj)}{vs:List ae}{f:List (List Nat)}{n:Nat}(P:kJ env C)(Fr0:Fr hh C s.heap m)(N:eE hh C s.heap ((F,listOf vs.toArray n)::ext))(hext:∀p∈ext,p.1≠F)(T:dC vs f)(hf:f≠[])
  {c:Nat} {u t:bE} {d:Int} (hs:m (aa "sign")=some (.str ⟨#[c]⟩ u)) (hd:m (aa "depth")=some (.int d t)) (hF:m (aa "found")=some (.ref F)) (hu:A.units<=9000) (hlen:f.length<=2^22) (hls:∀x∈f,x.length<=2^22) 
  {Q:cJ->ah->Prop} {E:ae->ah->Prop}
  (h:∀h' tk n' vs',Fr hh C h' m->eE hh C h' ((F,listOf vs'.toArray n')::ext)->dC vs' (if c=44/\ d=0 then f++[[]]else iz f c)->Q .next {s with heap:=h',toks:=tk}):
  wpAny W.M A (exec tW env) Q E s:=by
 have z22:(2:Nat)^22=4194304:=by decide
 have hsl:sizeLine=16777216:=by first|exact mD|decide+kernel
 have nin:interactive env=false:=by unfold interactive;rw[P.kind];rfl
 have hnz:∀{h:Heap},Fr hh C h m->h.Ns env.locals m:=λF' =>by rw[P.locals];exact F'.ns
 refine jq ?_
 have test:∀(Q':Bool->ah->Prop),(∀tk,Q' (decide (c=44/\ d=0)) {s with toks:=tk})->wpAny W.M A (isTrue (.BoolOp .And [.Compare (.Name (aa "sign") (pP 24)) [.Eq] [.Constant (.str (aa ",")) 0 (pP 25)] (pP 26), .Compare (.Name (aa "depth") (pP 27)) [.Eq] [.Constant (.int 0) 0 (pP 28)] (pP 29)] (pP 30)) env (eval (.BoolOp .And [.Compare (.Name (aa "sign") (pP 24)) [.Eq] [.Constant (.str (aa ",")) 0 (pP 25)] (pP 26), .Compare (.Name (aa "depth") (pP 27)) [.Eq] [.Constant (.int 0) 0 (pP 28)] (pP 29)] (pP 30)) env)) Q' E s:=λQ' hQ=>by
  refine isTrue_and (tU P.kind P.sign (by decide+kernel) (hnz Fr0) hs hu ?_)
  rw[yQ,show an (⟨#[c]⟩:Str)=[c]from rfl]
  by_cases h1:c=44
  ·rw[show(([c]:List Nat)==[44])=true by rw[h1];rfl,if_pos rfl]
   refine isTrue_and (HD P.kind P.depth (by decide+kernel) (hnz Fr0) hd hu ?_)
   by_cases h2:d=0
   ·rw[show(d==0)=true by rw[h2];rfl,if_pos rfl]
    refine isTrue_and_nil ?_
    have:=hQ (s.toks+1+1)
    rwa [show decide (c=44/\ d=0)=true by simp[h1,h2]]at this
   ·rw[show(d==0)=false by simpa using h2,if_neg (by decide)]
    have:=hQ (s.toks+1+1)
    rwa [show decide (c=44/\ d=0)=false by simp[h2]]at this
  ·rw[show(([c]:List Nat)==[44])=false by simp[h1],if_neg (by decide)]
   have:=hQ (s.toks+1)
   rwa [show decide (c=44/\ d=0)=false by simp[h1]]at this
 refine test _ λtk=> ?_
 have F1:Fr hh C ({s with toks:=tk}:ah).heap m:=Fr0
 have N1:eE hh C ({s with toks:=tk}:ah).heap ((F,listOf vs.toArray n)::ext):=N
 by_cases hc:c=44/\ d=0
 ·rw[show decide (c=44/\ d=0)=true by simp[hc],if_pos rfl]
  refine bT (wc (hi:=nin) (pB rfl rfl (by decide) (by decide+kernel) (dO (dI P.kind P.found (hnz F1) hF λpl=> ?_) (by decide+kernel))))
  refine listMethod_K N1 (.head _) PySem.F.slot_list_append PySem.F.type_list_append ?_
  refine Calls.callWith_builtin rfl (Calls.evalArgs_plain (Calls.spliced_cons (kb (Calls.spliced_nil ?_))))
  refine append_K (s:={s with toks:=tk+1}) F1 N1 (.head hext) (λh' F' N' => ?_) (by rw[oJ,T.len,hsl];exact aV ‹_› (by rfl))
  refine dQ ?_
  have:=h h' (tk+1) (n+1) (vs++[.str (aa "") tk]) F' (by simpa using N') (by rw[if_pos hc];have:=T.push (y:=aa "") (k:=tk);rwa [yR]at this)
  exact this
 ·rw[show decide (c=44/\ d=0)=false by simp[hc],if_neg (by decide)]
  refine gC (T.last hf) λws y k zq3 Tw hy=> ?_;subst zq3
  have hsz:(ws++[gB y k]).toArray.size=ws.length+1:=by simp
  have wl:ws.length+1<=2^22:=by have:=T.len;simp at this;exact kl ‹_› ‹_›
  have ly:y.length<=2^22:=by
   have:an y∈f:=by
    rw[<-hy]
    cases f with
    |nil=>exact absurd rfl hf
    |cons a r=>rw[List.getLastD_cons,<-List.getLast_eq_getLastD];exact List.getLast_mem (by simp)
   rw[<-bY];exact hls _ this
  have hL:∀{s':ah},s'.heap=s.heap->s'.heap.IsList F (ws++[gB y k]).toArray:=λ{s'} e=>by rw[e];exact PySem.IsL.isList (n:=n) (N _ (.head _)).1
  refine bT (wpAny_Assign_Subscript ?_ rfl)
  refine fP (oM (dO (dI P.kind P.found (hnz F1) hF ?_) (by decide+kernel)))
  refine vW (d0 (De ?_))
  refine jE (W:=W) (hL rfl).typeIs CY.lookup (wpAny_getItem_list_neg (hL rfl) (by decide) (by rw[hsz];exact wI (j7 _)) (by decide) (x:= .str y k) ?_ ?_) rfl
  ·have:((-1:Int)+((ws++[gB y k]).toArray.size:Nat)).toNat=ws.length:=by rw[hsz];exact congrArg Int.toNat (z1 _)
   rw[this];simp
  refine dO (dI P.kind P.sign (hnz F1) hs ?_) (by decide+kernel)
  refine SB.add (λt' k' => ?_) (by rw[show(⟨#[c]⟩:Str).length=1 from rfl,hsl];exact lA ‹_› (by rfl))
  refine dO (dI P.kind P.found (hnz F1) hF ?_) (by decide+kernel)
  refine vW (d0 (De ?_))
  refine ki_setNeg (s:={s with toks:=k'+1+1}) F1 N1 (by decide) (by decide) (j:=ws.length) (by rw[hsz];exact si ((if_pos (by decide)).trans (z1 _)) (gh _)) (q:=ws++[.str (y++⟨#[c]⟩) t']) (by rw[wk];exact yS _ _ ws) (.head hext) λh' F' N' => ?_
  refine dQ ?_
  have:=h h' (k'+1+1) n (ws++[.str (y++⟨#[c]⟩) t']) F' N' (by
   rw[if_neg hc]
   have:=Tw.push (y:=y++⟨#[c]⟩) (k:=t')
   rw[iX]at this
   unfold iz
   rw[hy]
   exact this)
  exact this
end
end
section
section
variable{W:Wd}{n:Nat}
noncomputable abbrev tX:List aC:=[.Assign [.Name (aa "found") (pP 0)] (.List [.Constant (.str (aa "")) 0 (pP 1)] (pP 2)) (pP 3), .Assign [.Name (aa "depth") (pP 4)] (.Constant (.int 0) 0 (pP 5)) (pP 6),
 .For (.Name (aa "sign") (pP 7)) (.Name (aa "text") (pP 8)) [tV,tW] [] (pP 9), .Return (some (.Name (aa "found") (pP 48))) (pP 49)]
noncomputable def di(x:List Nat)(i:Nat):List (List Nat)×Int:=(x.take i).foldl cM ([[]],0)
theorem tY{x:List Nat}{i c:Nat}(h:x[i]? =some c):di x (i+1)=cM (di x i) c:=by
 unfold di
 rw[v0,h]
 simp
theorem yT{x:List Nat}:(di x x.length).1=cz x:=by unfold di cz;rw[CZ]
theorem tZ(x:List Nat):∀i,(di x i).1≠[]/\ (di x i).1.length<=i+1/\ ∀y∈(di x i).1,y.length<=i
 |0=>by simp[di]
 |i+1=>by
  refine bL (tZ x i) λh1 h2 h3=> ?_
  cases e:x[i]? with
  |none=>
   have:di x (i+1)=di x i:=by unfold di;rw[v0,e];simp
   rw[this];exact⟨h1,iN ‹_›,λy hy=>by have:=h3 y hy;exact iN ‹_›⟩
  |some c=>
   rw[tY e]
   unfold cM
   dsimp only
   split
   ·exact⟨by simp,by simp;omega,λy hy=>by
     refine ck (gU.mp hy) (λq=> ?_) (λq=> ?_)
     ·have:=h3 y q;exact iN ‹_›
     ·simp at q;subst q;simp⟩
   ·unfold iz
    refine⟨by simp,by simp;have:=h1;cases hp:(di x i).1 with
     |nil=>exact absurd hp h1
     |cons a r=>rw[hp]at h2;simp at h2 ⊢;exact iN ‹_›,λy hy=> ?_⟩
    refine ck (gU.mp hy) (λq=> ?_) (λq=> ?_)
    ·have:=h3 y (Pj _ q);exact iN ‹_›
    ·simp at q;subst q
     have:((di x i).1.getLast?.getD []).length<=i:=by
      cases hp:(di x i).1 with
      |nil=>exact absurd hp h1
      |cons a r=>
       rw[List.getLast?_cons,Option.getD_some]
       have:=h3 (r.getLast?.getD a) (by
        rw[hp]
        cases hr:r.getLast? with
        |none=>simp
        |some z=>simp;right;exact Dl hr)
       exact this
     simp;exact‹_›
theorem t8{n j:Nat}(h:j<n):n+1-(j+1)<n+1-j:=oW ‹_›
noncomputable def HM(W:Wd)(A:aA)(x:ai)(it:ae)(b c:List aC)(env:av)(Q:cJ->ah->Prop)(s:ah):Prop:=
 ∃I:Nat->ah->Prop,(∃n,I n s)/\ ∀n s',I n s'->∀E:ae->ah->Prop,wpAny W.M A (pyNext it) (λr s₁=>match r with
  |none=>wpAny W.M A (execs c env) Q E s₁
  |some v=>wpAny W.M A (assign x env v) (λø s₂=>wpAny W.M A (execs b env) (λf s₃=>match f with
   | .next| .cont=>∃m,m<n/\ I m s₃
   | .brk=>Q .next s₃
   | .ret v=>Q (.ret v) s₃) E s₂) E s₁) E s'
theorem yU{W:Wd}{A:aA}{x i:ai}{b c:List aC}{env:av}{p:ax}{s:ah}{Q:cJ->ah->Prop}{E:ae->ah->Prop}(h:wpAny W.M A (eval i env) (λv s₁=>wpAny W.M A (pyIter v) (λit s₂=>HM W A x it b c env Q s₂) E s₁) E s)
  (hs:∀v,foldedSetIterable i env v=pure v:=by intro ø;rfl) (ht:∀it v,letOwnedTupleGo x it v=pure ():=by intro ø ø;rfl):wpAny W.M A (exec (.For x i b c p) env) Q E s:=
 wpAny_For (hs:=hs) (fL h (λø ø h₁=>fL h₁ (λit ø h₂=>by
  obtain⟨I,⟨n,hn⟩,k⟩:=h₂
  refine codeAny_forLoop I (λn s hI=>fL (k n s hI _) (λr s₁ h₁=> ?_) λø ø h=>h) n hn (ht it)
  cases r with
  |none=>exact h₁
  |some v=>exact h₁) λø ø h=>h) λø ø h=>h)
inductive yV(hh:Heap)(C F I₀:Addr)(St:Nat->Heap->Prop)(x:List Nat)(g:Array gy)(dr:Drawn)(os:ii)(k:Nat)(s':ah):Prop
 |mk (i:Nat) (h':Heap) (tk':Nat) (m':Str->Option ae) (vs':List ae) (n':Nat) (t':bE) (oI':Obj):s' =⟨h',g,dr,tk',os⟩->k=x.length+1-i->i<=x.length->Fr hh C h' m'->eE hh C h' [(F,listOf vs'.toArray n'),(I₀,oI')]->St i h'->dC vs' (di x i).1->m' (aa "found")=some (.ref F)->m' (aa "depth")=some (.int (di x i).2 t')->yV hh C F I₀ St x g dr os k s'
theorem HN{env:av}{hh:Heap}{C F I₀:Addr}{A:aA}{St:Nat->Heap->Prop}{x:List Nat}{h4:Heap}{m':Str->Option ae}{vs':List ae}{n':Nat}{t' u:bE}{oI4:Obj}{g:Array gy}{dr:Drawn}{os:ii}{tk4 i c:Nat}(P:kJ env C)(frame:∀j h h',St j h->(∀b∈[I₀],∀o,h.get? b=some o->h'.get? b=some o)->St j h')(cI:C≠I₀)(fI:F≠I₀)
  (F4:Fr hh C h4 m') (N4:eE hh C h4 [(F,listOf vs'.toArray n'),(I₀,oI4)]) (st4:St (i+1) h4) (T':dC vs' (di x i).1) (mf:m' (aa "found")=some (.ref F)) (md:m' (aa "depth")=some (.int (di x i).2 t')) (hc':x[i]? =some c) (hx:x.length<=aX) (hlt:i<x.length) (A1:A.units<=9000)
  {Q:cJ->ah->Prop} {E E':ae->ah->Prop} (h:∀h7 tk7 m7 vs7 n7 t7,Fr hh C h7 m7->eE hh C h7 [(F,listOf vs7.toArray n7),(I₀,oI4)]->St (i+1) h7->dC vs7 (di x (i+1)).1->m7 (aa "found")=some (.ref F)->m7 (aa "depth")=some (.int (di x (i+1)).2 t7)->Q .next ⟨h7,g,dr,tk7,os⟩):
  wpAny W.M A (storeName env (aa "sign") (.str ⟨#[c]⟩ u)) (λø s=>wpAny W.M A (execs [tV,tW] env) Q E' s) E ⟨h4,g,dr,tk4,os⟩:=by
 have ht:=gn
 have hext4:∀p∈[(I₀,oI4)],p.1≠F:=λp hp=>by rw[du]at hp;subst hp;exact cH fI
 refine pJ (s:=⟨h4,g,dr,tk4,os⟩) P F4 N4 P.sign λh5 F5 N5 k5=> ?_
 have st5:St (i+1) h5:=frame _ _ _ st4 λb hb o e=>by
  rw[du]at hb;subst hb
  exact k5 _ o (cH cI) e
 refine bT (HJ (s:=⟨h5,g,dr,tk4+1,os⟩) P F5 N5 (c:=c) (u:=u) (t:=t') (d:=(di x i).2) (by rw[if_pos rfl]) (by rw[if_neg (by decide+kernel)];exact md) A1 λh6 tk6 t6' m6 F6 N6 k6 md6 mo6=> ?_)
 have st6:St (i+1) h6:=frame _ _ _ st5 λb hb o e=>by
  rw[du]at hb;subst hb
  exact k6 _ o (cH cI) e
 refine bL (tZ x i) λl1 l2 l3=> ?_
 have m6f:m6 (aa "found")=some (.ref F):=by rw[mo6 _ (by decide+kernel),if_neg (by decide+kernel)];exact mf
 refine bT (HL (s:=⟨h6,g,dr,tk6,os⟩) P F6 N6 hext4 T' l1 (c:=c) (u:=u) (t:=t6') (d:=dB (di x i).2 c) (by rw[mo6 _ (by decide+kernel),if_pos rfl]) md6 m6f A1 (ao l2 (ao hlt (ao hx (by decide+kernel)))) (λz hz=>ao (l3 z hz) (ao (fM hlt) (ao hx (by decide+kernel)))) λh7 tk7 n7 vs7 F7 N7 T7=> ?_)
 have st7:St (i+1) h7:=frame _ _ _ st6 λb hb o e=>by
  rw[du]at hb;subst hb
  have e3:h6.get? b=some oI4:=((N6 (b,oI4) (.tail _ (.head _))).1)
  have e:h6.get? b=some o:=e
  rw[e]at e3;cases aq e3;exact((N7 (b,oI4) (.tail _ (.head _))).1)
 exact dQ (h h7 tk7 m6 vs7 n7 t6' F7 N7 st7 (by rw[tY hc'];exact T7) m6f (by rw[tY hc'];exact md6))
theorem HO{env:av}{hh:Heap}{C:Addr}{A:aA}{h₀:Heap}{y:Str}{ty:bE}{g:Array gy}{dr:Drawn}{os:ii}{tk:Nat}(P:kJ env C)(htext:env.scope.names.lookup (aa "text")=some .local) (hfound:env.scope.names.lookup (aa "found")=some .local) (hdepth:env.scope.names.lookup (aa "depth")=some .local)
  (F0:Fr hh C h₀ (λz=>([(aa "text",gB y ty)]:List (Str×ae)).reverse.lookup z)) (nh:∀b,C<=b->hh.get? b=none) (ltC:C<h₀.objs.size) (hx:(an y).length<=aX) (A1:A.units<=9000) (Hh:A.handled=none)
  {Q:cJ->ah->Prop} {E:ae->ah->Prop} (h:∀F h4 tk4 vs n,(∀b o,hh.get? b=some o->h4.get? b=some o)->h4.get? F=some (listOf vs.toArray n)->hh.get? F=none->dC vs (cz (an y))->Q (.ret (.ref F)) ⟨h4,g,dr,tk4,os⟩):
  wpAny W.M A (execs tX env) Q E ⟨h₀,g,dr,tk,os⟩:=by
 have zC:=P.locals
 subst zC
 have nC:hh.get? env.locals=none:=nh _ (bO _)
 refine bT (ik (hs:=rfl) (wpAny_List ?_))
 rw[dS (pP 2) (show bv [ai.Constant (.str (aa "")) 0 (pP 1)]=true from rfl)]
 refine Calls.spliced_cons (kb (Calls.spliced_nil ⟨by show 1<=sizeLine;decide+kernel,?_⟩))
 obtain⟨F,hF⟩:∃F,F=h₀.objs.size:=⟨_,rfl⟩
 have N1:eE hh env.locals (h₀.push (listOf [gB (aa "") tk].toArray 0)) [(F,listOf [gB (aa "") tk].toArray 0)]:=λp hp=>by
  rw[du]at hp;subst hp
  exact⟨by rw[hF];exact ee _ rfl,by rw[hF];exact mB ltC,nh _ (by rw[hF];exact fM ltC)⟩
 rw[<-hF]
 refine pJ P (F0.push (listOf [gB (aa "") tk].toArray 0)) N1 hfound λh2 F2 N2 ø=> ?_
 refine bT (ik (hs:=rfl) (d0 (pJ P F2 N2 hdepth λh3 F3 N3 ø=> ?_)))
 refine bT (yU (hs:=by intro ø;rfl) (dO (dI (v:= .str y ty) P.kind htext F3.ns (by
  rw[if_neg (by decide+kernel),if_neg (by decide+kernel)];rfl) ?_) (by decide+kernel)))
 refine HE λoI St Wk st0 own=> ?_
 dsimp only at Wk st0 own ⊢
 obtain⟨I₀,hI⟩:∃I₀,I₀=h3.objs.size:=⟨_,rfl⟩
 rw[<-hI]at Wk own ⊢
 have hC3:env.locals<h3.objs.size:=by obtain⟨o,_,_,e,_⟩:=F3.ns;exact eA e
 have hF3:F<h3.objs.size:=eA (N3 _ (.head _)).1
 have cI:env.locals≠I₀:=by rw[hI];exact eZ hC3
 have fI:F≠I₀:=by rw[hI];exact eZ hF3
 have nI:hh.get? I₀=none:=nh _ (by rw[hI];exact fM hC3)
 have FC:F≠env.locals:=(N3 _ (.head _)).2.1
 have nF:hh.get? F=none:=(N3 _ (.head _)).2.2
 have lx:(an y).length=y.cps.size:=by simp[an]
 refine xE (own 0 _ st0) λoI0 eI0=> ?_
 obtain⟨m3,F3',mf3,t0,md3⟩:∃m3,Fr hh env.locals h3 m3/\ m3 (aa "found")=some (.ref F)/\ ∃t0,m3 (aa "depth")=some (.int 0 t0):=
  ⟨_,F3,by rw[if_neg (by decide+kernel),if_pos rfl],_,by rw[if_pos rfl]⟩
 obtain⟨vs0,n0,T0,N0⟩:∃vs0 n0,dC vs0 [[]]/\ eE hh env.locals h3 [(F,listOf vs0.toArray n0)]:=⟨_,_,by
  have:dC [gB (aa "") tk] [an (aa "")]:= .cons .nil
  rw[yR]at this
  exact this,N3⟩
 refine⟨yV hh env.locals F I₀ St (an y) g dr os,⟨_,⟨0,h3.push oI,_,m3,vs0,n0,t0,oI0,rfl,rfl,dZ _,F3'.push oI,?_,st0,T0,mf3,md3⟩⟩,?_⟩
 rotate_left
 ·intro k s' zn1 E1
  obtain⟨i,h',tk',m',vs',n',t',oI',rfl,rfl,hi,F',N',st',T',mf,md⟩:=zn1
  have hext:∀p∈[(I₀,oI')],p.1≠F:=λp hp=>by rw[du]at hp;subst hp;exact cH fI
  by_cases hlt:i<(an y).length
  ·refine(Wk A Hh).item i ⟨h',g,dr,tk',os⟩ _ _ (by rw[<-lx];exact hlt) st' λv h4 tk4 hP st4 k4=> ?_
   refine dR hP λc u hc zq3=> ?_;subst zq3
   have hc':(an y)[i]? =some c:=by simpa[an] using hc
   refine xE (own _ _ st4) λoI4 eI4=> ?_
   have k4':∀b o,b≠I₀->h'.get? b=some o->h4.get? b=some o:=gD k4
   have F4:Fr hh env.locals h4 m':=⟨F'.ns.at' (λo e=>k4' _ o cI e),λb o e=>k4' b o (λq=>by rw[q,nI]at e;exact al e) (F'.keep b o e),F'.above⟩
   have N4:eE hh env.locals h4 [(F,listOf vs'.toArray n'),(I₀,oI4)]:=λp hp=>by
    simp only[bR,eQ,or_false]at hp
    rcases hp with rfl|rfl
    ·exact⟨k4' _ _ fI (N' _ (.head _)).1,FC,nF⟩
    ·exact⟨eI4,cH cI,nI⟩
   exact kc (HN P (Wk A Hh).frame cI fI F4 N4 st4 T' mf md hc' hx hlt A1 λh7 tk7 m7 vs7 n7 t7 q1 q2 q3 q4 q5 q6=>⟨(an y).length+1-(i+1),t8 hlt,i+1,h7,tk7,m7,vs7,n7,t7,oI4,rfl,rfl,hlt,q1,q2,q3,q4,q5,q6⟩)
  ·have:i=(an y).length:=mP ‹_› ‹_›
   subst this
   refine(Wk A Hh).done ⟨h',g,dr,tk',os⟩ _ _ (by rw[<-lx];exact st') λh4 tk4 k4=> ?_
   have k4':∀b o,b≠I₀->h'.get? b=some o->h4.get? b=some o:=gD k4
   have F4:Fr hh env.locals h4 m':=⟨F'.ns.at' (λo e=>k4' _ o cI e),λb o e=>k4' b o (λq=>by rw[q,nI]at e;exact al e) (F'.keep b o e),F'.above⟩
   refine dQ (bT (il (dO (dI P.kind hfound F4.ns mf ?_) (by decide+kernel))))
   rw[yT]at T'
   exact h F h4 tk4 vs' n' F4.keep (k4' _ _ fI (N' _ (.head _)).1) nF T'
 ·intro p hp
  simp only[bR,eQ,or_false]at hp
  rcases hp with rfl|rfl
  ·exact⟨bX _ (N0 _ (.head _)).1,FC,nF⟩
  ·exact⟨eI0,cH cI,nI⟩
theorem HP(O:aZ W){fa:Addr}{fd:dv}(D:bw false W fa fd tX ["text"]) (hfound:fd.scope.names.lookup (aa "found")=some .local) (hdepth:fd.scope.names.lookup (aa "depth")=some .local) (hsign:fd.scope.names.lookup (aa "sign")=some .local)
  (x:List Nat) (hx:x.length<=aX):f8 W (n+1) (.ref fa) [.str x] (.ok (.list ((cz x).map .str))):=λA l s X vs R ra hne hd hu Q E Fin=>by
 have ht:=gn
 have hrl:(900:Nat)<recursionLimit:=by decide+kernel
 have I:=R.inv
 refine ay D.at_ λo ho hod=> ?_
 refine ra.consE λv ws zq rv rs=> ?_;subst zq
 obtain rfl:=rs.nilI
 refine rv.strE λy ty zq2 zq3=> ?_;subst zq2 zq3
 obtain⟨hh,g,dr,tk,os⟩:=s
 refine jp (rG (binds:=[(aa "text", .str y ty)]) (dt (ao (bk A.depth _) hd) hrl) (I.stays _ _ ho) hod (I.nolimit O) (D.rec_.keeps I.stays) D.body (D.bind _ [.str y ty] I.stays rfl).of D.nocell (λx hx=>by rw[du]at hx;subst hx;exact D.local_ _ (by simp)) (λh₀ hns keep=> ?_) D.co D.gen D.kind)
 have P:kJ (callEnv fd hh.objs.size fa) hh.objs.size:=⟨D.kind,rfl,hfound,hdepth,hsign⟩
 have F0:Fr hh hh.objs.size h₀ (λz=>([(aa "text",gB y ty)]:List (Str×ae)).reverse.lookup z):=⟨hns,keep,bO _⟩
 have A1:(A.deeper (callEnv fd hh.objs.size fa)).units<=9000:=by show A.units+3<=9000;exact rN ‹_› (by rfl)
 have nh:∀b,hh.objs.size<=b->hh.get? b=none:=λb hb=>dP hb
 have ltC:hh.objs.size<h₀.objs.size:=by obtain⟨o,_,_,e,_⟩:=hns;exact eA e
 refine HO P (D.local_ _ (by simp)) hfound hdepth F0 nh ltC hx A1 R.handled λF h4 tk4 vs n keep4 e4 nF T=> ?_
 refine Fin.1 _ _ _ rfl (After.of_keeps (tk:=tk4) I keep4) ?_
 have nX:¬X F:=λhX=>by
  refine xE (R.xlt F hX) λo e=> ?_
  rw[show(⟨hh,g,dr,tk,os⟩:ah).heap=hh from rfl,nF]at e;exact al e
 exact .list e4 rfl rfl nX T.reps
end
end
section
noncomputable def dT:aY->Addr| .tup=>214| .bas=>266
noncomputable def lR:XC->ae| .parse=> .ref 24| .value=> .type "ValueError" | .abi=> .ref 37
noncomputable def bd:List (Addr×Addr):=[(155,151),(187,183),(209,205),(239,235)]
noncomputable def wd(w:fb)(h:Heap)(mg mb:Str->Option ae):Wd:=⟨w,ghostOf h bd,HK w.params,mg,mb,dT,lR,bd⟩
section
variable(P:ak)
theorem HQ:noTabs (HK P)=true:=by kernel_rfl
theorem HR:∀c d:aY,kitOne (HK P) (.ref (dT c)) (.ref (dT d))=some (c==d):=λc d=>by cases c<;>cases d<;>kernel_rfl
theorem HS:∀c:aY,kitOne (HK P) (.ref (dT c)) (.type "str")=some false:=λc=>by cases c<;>kernel_rfl
theorem HT:∀c:aY,plainGet (HK P) (dT c) "__class__" =true:=λc=>by cases c<;>kernel_rfl
theorem HU:∀c:aY,hasDictIn (HK P) (dT c)=true:=λc=>by cases c<;>kernel_rfl
theorem HV:∀c:aY,findIn (HK P) (.ref (dT c)) "__class__" =some (some (.builtin "object.__class__")):=λc=>by cases c<;>kernel_rfl
theorem HW:specialIn (HK P) (.builtin "object.__class__") "__get__" =some (some (.builtin "getset_descriptor.__get__")):=by kernel_rfl
theorem HX:takesIn (HK P) (.builtin "object.__class__")=some true:=by kernel_rfl
theorem HY:∀c:aY,mroIn (HK P) (dT c) (.type "object")=some true:=λc=>by cases c<;>kernel_rfl
theorem HZ:∀c:aY,findIn (HK P) (.ref (dT c)) "__getattribute__" =some (some (.builtin "object.__getattribute__")):=λc=>by cases c<;>kernel_rfl
theorem H0:∀c:aY,∀a∈dL,findIn (HK P) (.ref (dT c)) a=some none:=λc a ha=>by
 simp only[dL,bR,eQ,or_false]at ha
 rcases ha with rfl|rfl|rfl|rfl<;>cases c<;>kernel_rfl
theorem H5:∀c:aY,∃cd,clsIn (HK P) (dT c)=some cd/\ cd.hasDict=true:=λc=>by
 have h:(clsIn (HK P) (dT c)).any (·.hasDict)=true:=by cases c<;>kernel_rfl
 refine ay (any_some h) λcd e1 e2=> ?_
 exact⟨cd,e1,e2⟩
theorem H6:∀x∈blt,nsIn (HK P) mainGlobals x=some none:=λx hx=>by
 have h:blt.all (λx=>nsIn (HK P) mainGlobals x==some none)=true:=by kernel_rfl
 exact beq_iff_eq.mp (ba.mp h x hx)
end
theorem t9{h:Heap}{K:Frag}(X:K.In h)(TB:∀P∈([151,183,205,235]:List Addr),h.get? P=some (tabObj #[]))(hc:bd.all (λq=>codeHdIn K q.1 q.2)=true):TabsAt bd h:=λq hq=>by
 refine⟨codeHd_of_K X (ba.mp hc q hq),TB q.2 ?_⟩
 simp only[bd,bR,eQ,or_false]at hq
 rcases hq with rfl|rfl|rfl|rfl<;>simp
theorem ua(P:ak):bd.all (λq=>codeHdIn (HK P) q.1 q.2)=true:=by kernel_rfl
theorem H7{w:fb}{h:Heap}{p:j8}{loose:List Str}{mean:ExcName->Option ae}{mg mb:Str->Option ae}(KX:(HK w.params).In h)(TB:∀P∈([151,183,205,235]:List Addr),h.get? P=some (tabObj #[]))(T:Top p loose mean mg mb h):aZ (wd w h mg mb):=by
 have hT:=t9 KX TB (ua _)
 have X':(HK w.params).In (ghostOf h bd):=ghost_K hT KX (HQ _)
 have T':=ghost_top hT T
 refine {kin:=X',g:=T'.g,b:=T'.b,mbv:=T'.builtins,nolimit:=T'.nolimit,nogl:=λx hx=>mg_none_of X' T'.g (H6 _ x hx),tupN:=bG X' T'.g (by kernel_rfl),basN:=bG X' T'.g (by kernel_rfl),kit:=HR _,kitS:=HS _,pget:=HT _,hdict:=HU _,fcls:=HV _,scls:=HW _,tcls:=HX _,mcls:=HY _,ga:=HZ _,fld:=H0 _,bfor:= ?_,tabInj:= ?_,cd:=H5 _}
 ·intro A s Q E I hq
  refine mK T'.bmain λbm ob h1 h2 h3 h4 h5 h6=> ?_
  exact wpAny_builtinsFor (T'.g.keeps I.stays) h1 h2 (I.stays _ _ h3) h4 h5 h6 hq
 ·intro q hq q' hq' e
  have hq:q∈bd:=hq
  have hq':q'∈bd:=hq'
  simp only[bd,bR,eQ,or_false]at hq hq'
  rcases hq with rfl|rfl|rfl|rfl<;>rcases hq' with rfl|rfl|rfl|rfl<;>first|rfl|(cases e)
end
section
noncomputable def az(K:Frag)(fa:Addr):dv:=match K.lookup fa with
 |some ⟨_,_, .func fd,_⟩=>fd
 |_=>default
theorem ub{K:Frag}{h:Heap}(X:K.In h){fa:Addr}(e:fnIn K fa=true):∃o,h.get? fa=some o/\ o.data= .func (az K fa):=by
 unfold fnIn at e
 unfold az
 split at e
 ·rename_i ho
  rw[ho]
  exact⟨_,X _ _ ho,rfl⟩
 ·exact bV e
structure aT(K:Frag)(fa:Addr)(st:aC)(params:List Str):Prop where
 fn:fnIn K fa=true
 body:(az K fa).body= .stmts (aS st)
 globals:(az K fa).globals=mainGlobals
 builtins:(az K fa).builtins=builtinsNs
 rec_:codeIn K (az K fa).code (az K fa).qualname=true
 kind:(az K fa).scope.kind= .function
 co:(az K fa).scope.isCoroutine=false
 gen:(az K fa).scope.isGenerator=false
 nocell:(az K fa).scope.names.all (λy=>y.2 != .cell)=true
 nodup:params.Nodup
 local_:params.all (λx=>(az K fa).scope.names.lookup x==some .local)=true
 scope:(az K fa).scope=cg st
theorem aT.ok{g:Bool}{W:Wd}{K:Frag}{fa:Addr}{st:aC}{params:List Str}(D:aT K fa st params)(X:K.In W.base)(hc:g=true->∃c P,(az K fa).code= .ref c/\ (c,P)∈W.tabs)
  (hb:∀(s:ah) (vs:List ae),W.base.StaysIn s.heap->vs.length=params.length->Binds s (az K fa) ⟨vs,[]⟩ (params.zip vs)):bw g W fa (az K fa) (aS st) params where
 at_:=ub X D.fn
 body:=D.body
 globals:=D.globals
 builtins:=D.builtins
 code:=hc
 rec_:=codeRec_of X D.rec_
 kind:=D.kind
 co:=D.co
 gen:=D.gen
 nocell:=λy hy=>by have:=ba.mp D.nocell y hy;simpa using this
 nodup:=D.nodup
 local_:=λx hx=>beq_iff_eq.mp (ba.mp D.local_ x hx)
 bind:=hb
theorem uc{vs:List ae}(h:vs.length=0):vs=[]:=oH h
theorem pK{n:Nat}{vs:List ae}(h:vs.length=n+1):∃a r,vs=a::r/\ r.length=n:=by
 cases vs with
 |nil=>exact absurd h (CW n).symm
 |cons a r=>exact⟨a,r,rfl,Nat.succ.inj h⟩
theorem dE{vs:List ae}(h:vs.length=1):∃a,vs=[a]:=dR (pK h) λa r e k=>⟨a,by rw[e,oH k]⟩
theorem i4{vs:List ae}(h:vs.length=2):∃a b,vs=[a,b]:=dR (pK h) λa r e k=>xE (dE k) λb e2=>⟨a,b,by rw[e,e2]⟩
theorem yW{vs:List ae}(h:vs.length=3):∃a b c,vs=[a,b,c]:=dR (pK h) λa r e k=>dw (i4 k) λb c e2=>⟨a,b,c,by rw[e,e2]⟩
theorem H8{vs:List ae}(h:vs.length=4):∃a b c d,vs=[a,b,c,d]:=dR (pK h) λa r e k=>wy (yW k) λb c d e2=>⟨a,b,c,d,by rw[e,e2]⟩
theorem cn{Q:Prop}(h:false=true):Q:=vZ h
set_option tactic.hygienic true in
theorem ud{K:Frag}{h:Heap}(X:K.In h){a:Addr}{vs:List ae}(e:(match K.lookup a with|some ⟨_,_, .seq ws _,_⟩=>ws.toList|_=>[])=vs)(hne:vs≠[]):∃o n,h.get? a=some o/\ o.data= .seq vs.toArray n:=by
 split at e
 ·rename_i ws n _ ho
  subst e
  exact⟨_,n,X _ _ ho,by simp⟩
 ·exact absurd e.symm hne
theorem yX(P:ak):aT (HK P) 47 (ag 6) (au (ag 6)):=
 ⟨by kernel_rfl,by kernel_rfl,by kernel_rfl,by kernel_rfl,by kernel_rfl,by kernel_rfl,by kernel_rfl,by kernel_rfl,by kernel_rfl,by decide+kernel,by kernel_rfl,by kernel_rfl⟩
theorem H9(P:ak)(a b:ae):bindArgs (az (HK P) 47) ⟨[a,b],[]⟩=pure ((au (ag 6)).zip [a,b]):=by kernel_rfl
theorem yY{W:Wd}{P:ak}(X:(HK P).In W.base)(hT:W.tabs=bd):bw false W 47 (az (HK P) 47) (aS (ag 6)) (au (ag 6)):=
 aT.ok (yX P) X (cn) (λs vs ø hl=>by
  refine dw (i4 (hl.trans (show(au (ag 6)).length=2 by kernel_rfl))) λa b zq2=> ?_;subst zq2
  exact Binds.mk_eq (H9 P a b))
theorem yZ(P:ak):aT (HK P) 54 (ag 7) (au (ag 7)):=
 ⟨by kernel_rfl,by kernel_rfl,by kernel_rfl,by kernel_rfl,by kernel_rfl,by kernel_rfl,by kernel_rfl,by kernel_rfl,by kernel_rfl,by decide+kernel,by kernel_rfl,by kernel_rfl⟩
theorem H'(P:ak)(a b:ae):bindArgs (az (HK P) 54) ⟨[a,b],[]⟩=pure ((au (ag 7)).zip [a,b]):=by kernel_rfl
theorem y0{W:Wd}{P:ak}(X:(HK P).In W.base)(hT:W.tabs=bd):bw false W 54 (az (HK P) 54) (aS (ag 7)) (au (ag 7)):=
 aT.ok (yZ P) X (cn) (λs vs ø hl=>by
  refine dw (i4 (hl.trans (show(au (ag 7)).length=2 by kernel_rfl))) λa b zq2=> ?_;subst zq2
  exact Binds.mk_eq (H' P a b))
theorem y3(P:ak):aT (HK P) 61 (ag 8) (au (ag 8)):=
 ⟨by kernel_rfl,by kernel_rfl,by kernel_rfl,by kernel_rfl,by kernel_rfl,by kernel_rfl,by kernel_rfl,by kernel_rfl,by kernel_rfl,by decide+kernel,by kernel_rfl,by kernel_rfl⟩
theorem Ia(P:ak)(a b:ae):bindArgs (az (HK P) 61) ⟨[a,b],[]⟩=pure ((au (ag 8)).zip [a,b]):=by kernel_rfl
theorem y4{W:Wd}{P:ak}(X:(HK P).In W.base)(hT:W.tabs=bd):bw false W 61 (az (HK P) 61) (aS (ag 8)) (au (ag 8)):=
 aT.ok (y3 P) X (cn) (λs vs ø hl=>by
  refine dw (i4 (hl.trans (show(au (ag 8)).length=2 by kernel_rfl))) λa b zq2=> ?_;subst zq2
  exact Binds.mk_eq (Ia P a b))
theorem y5(P:ak):aT (HK P) 68 (ag 9) (au (ag 9)):=
 ⟨by kernel_rfl,by kernel_rfl,by kernel_rfl,by kernel_rfl,by kernel_rfl,by kernel_rfl,by kernel_rfl,by kernel_rfl,by kernel_rfl,by decide+kernel,by kernel_rfl,by kernel_rfl⟩
theorem Ib(P:ak)(a b:ae):bindArgs (az (HK P) 68) ⟨[a,b],[]⟩=pure ((au (ag 9)).zip [a,b]):=by kernel_rfl
theorem y6{W:Wd}{P:ak}(X:(HK P).In W.base)(hT:W.tabs=bd):bw false W 68 (az (HK P) 68) (aS (ag 9)) (au (ag 9)):=
 aT.ok (y5 P) X (cn) (λs vs ø hl=>by
  refine dw (i4 (hl.trans (show(au (ag 9)).length=2 by kernel_rfl))) λa b zq2=> ?_;subst zq2
  exact Binds.mk_eq (Ib P a b))
theorem y7(P:ak):aT (HK P) 75 (ag 10) (au (ag 10)):=
 ⟨by kernel_rfl,by kernel_rfl,by kernel_rfl,by kernel_rfl,by kernel_rfl,by kernel_rfl,by kernel_rfl,by kernel_rfl,by kernel_rfl,by decide+kernel,by kernel_rfl,by kernel_rfl⟩
theorem Ic(P:ak)(a b:ae):bindArgs (az (HK P) 75) ⟨[a,b],[]⟩=pure ((au (ag 10)).zip [a,b]):=by kernel_rfl
theorem y8{W:Wd}{P:ak}(X:(HK P).In W.base)(hT:W.tabs=bd):bw false W 75 (az (HK P) 75) (aS (ag 10)) (au (ag 10)):=
 aT.ok (y7 P) X (cn) (λs vs ø hl=>by
  refine dw (i4 (hl.trans (show(au (ag 10)).length=2 by kernel_rfl))) λa b zq2=> ?_;subst zq2
  exact Binds.mk_eq (Ic P a b))
theorem y9(P:ak):aT (HK P) 82 (ag 11) (au (ag 11)):=
 ⟨by kernel_rfl,by kernel_rfl,by kernel_rfl,by kernel_rfl,by kernel_rfl,by kernel_rfl,by kernel_rfl,by kernel_rfl,by kernel_rfl,by decide+kernel,by kernel_rfl,by kernel_rfl⟩
theorem Ie(P:ak)(a:ae):bindArgs (az (HK P) 82) ⟨[a],[]⟩=pure ((au (ag 11)).zip [a]):=by kernel_rfl
theorem za{W:Wd}{P:ak}(X:(HK P).In W.base)(hT:W.tabs=bd):bw false W 82 (az (HK P) 82) (aS (ag 11)) (au (ag 11)):=
 aT.ok (y9 P) X (cn) (λs vs ø hl=>by
  refine xE (dE (hl.trans (show(au (ag 11)).length=1 by kernel_rfl))) λa zq1=> ?_;subst zq1
  exact Binds.mk_eq (Ie P a))
theorem Ig(P:ak):aT (HK P) 97 (am (ag 12) 0) (au (am (ag 12) 0)):=
 ⟨by kernel_rfl,by kernel_rfl,by kernel_rfl,by kernel_rfl,by kernel_rfl,by kernel_rfl,by kernel_rfl,by kernel_rfl,by kernel_rfl,by decide+kernel,by kernel_rfl,by kernel_rfl⟩
theorem Ih(P:ak):∀(fd:dv),fd=az (HK P) 97->∀(s:ah) (a b:ae) (o:Obj) (m:Nat),s.heap.get? 90=some o->o.data= .seq ([.none]:List ae).toArray m->fd.defaults= .ref 90->Binds s fd ⟨[a,b],[]⟩ ((au (am (ag 12) 0)).zip [a,b]):=
 λfd hfd s a b o m e1 e2 hd=>⟨Dm hd e1 e2 rfl (by subst hfd;kernel_rfl)⟩
theorem Ii(P:ak):(az (HK P) 97).defaults= .ref 90:=by kernel_rfl
theorem zb{W:Wd}{P:ak}(X:(HK P).In W.base)(hT:W.tabs=bd):bw false W 97 (az (HK P) 97) (aS (am (ag 12) 0)) (au (am (ag 12) 0)):=
 aT.ok (Ig P) X (cn) (λs vs hs hl=>by
  refine dw (i4 (hl.trans (show(au (am (ag 12) 0)).length=2 by kernel_rfl))) λa b zq2=> ?_;subst zq2
  refine dR (ud (a:=90) (vs:=[.none]) X (show(match(HK P).lookup 90 with|some ⟨_,_, .seq ws _,_⟩=>ws.toList|_=>[])=[.none] by kernel_rfl) (by simp)) λo m e1 e2=> ?_
  exact Ih P _ rfl s a b o m (hs _ _ e1) e2 (Ii P))
theorem zc(P:ak):aT (HK P) 104 (am (ag 12) 1) (au (am (ag 12) 1)):=
 ⟨by kernel_rfl,by kernel_rfl,by kernel_rfl,by kernel_rfl,by kernel_rfl,by kernel_rfl,by kernel_rfl,by kernel_rfl,by kernel_rfl,by decide+kernel,by kernel_rfl,by kernel_rfl⟩
theorem Ij(P:ak)(a b:ae):bindArgs (az (HK P) 104) ⟨[a,b],[]⟩=pure ((au (am (ag 12) 1)).zip [a,b]):=by kernel_rfl
theorem Ik{W:Wd}{P:ak}(X:(HK P).In W.base)(hT:W.tabs=bd):bw false W 104 (az (HK P) 104) (aS (am (ag 12) 1)) (au (am (ag 12) 1)):=
 aT.ok (zc P) X (cn) (λs vs ø hl=>by
  refine dw (i4 (hl.trans (show(au (am (ag 12) 1)).length=2 by kernel_rfl))) λa b zq2=> ?_;subst zq2
  exact Binds.mk_eq (Ij P a b))
theorem zd(P:ak):aT (HK P) 133 (am (ag 12) 5) (au (am (ag 12) 5)):=
 ⟨by kernel_rfl,by kernel_rfl,by kernel_rfl,by kernel_rfl,by kernel_rfl,by kernel_rfl,by kernel_rfl,by kernel_rfl,by kernel_rfl,by decide+kernel,by kernel_rfl,by kernel_rfl⟩
theorem Il(P:ak)(a b:ae):bindArgs (az (HK P) 133) ⟨[a,b],[]⟩=pure ((au (am (ag 12) 5)).zip [a,b]):=by kernel_rfl
theorem ze{W:Wd}{P:ak}(X:(HK P).In W.base)(hT:W.tabs=bd):bw false W 133 (az (HK P) 133) (aS (am (ag 12) 5)) (au (am (ag 12) 5)):=
 aT.ok (zd P) X (cn) (λs vs ø hl=>by
  refine dw (i4 (hl.trans (show(au (am (ag 12) 5)).length=2 by kernel_rfl))) λa b zq2=> ?_;subst zq2
  exact Binds.mk_eq (Il P a b))
theorem zf(P:ak):aT (HK P) 140 (am (ag 12) 6) (au (am (ag 12) 6)):=
 ⟨by kernel_rfl,by kernel_rfl,by kernel_rfl,by kernel_rfl,by kernel_rfl,by kernel_rfl,by kernel_rfl,by kernel_rfl,by kernel_rfl,by decide+kernel,by kernel_rfl,by kernel_rfl⟩
theorem Im(P:ak)(a:ae):bindArgs (az (HK P) 140) ⟨[a],[]⟩=pure ((au (am (ag 12) 6)).zip [a]):=by kernel_rfl
theorem Io{W:Wd}{P:ak}(X:(HK P).In W.base)(hT:W.tabs=bd):bw false W 140 (az (HK P) 140) (aS (am (ag 12) 6)) (au (am (ag 12) 6)):=
 aT.ok (zf P) X (cn) (λs vs ø hl=>by
  refine xE (dE (hl.trans (show(au (am (ag 12) 6)).length=1 by kernel_rfl))) λa zq1=> ?_;subst zq1
  exact Binds.mk_eq (Im P a))
theorem zg(P:ak):aT (HK P) 156 (am (ag 12) 8) (au (am (ag 12) 8)):=
 ⟨by kernel_rfl,by kernel_rfl,by kernel_rfl,by kernel_rfl,by kernel_rfl,by kernel_rfl,by kernel_rfl,by kernel_rfl,by kernel_rfl,by decide+kernel,by kernel_rfl,by kernel_rfl⟩
theorem Ip(P:ak):(az (HK P) 156).code= .ref 155:=by kernel_rfl
theorem Iq:(((155,151):Addr×Addr)∈bd):=by decide+kernel
theorem Ir(P:ak)(a:ae):bindArgs (az (HK P) 156) ⟨[a],[]⟩=pure ((au (am (ag 12) 8)).zip [a]):=by kernel_rfl
theorem Iu{W:Wd}{P:ak}(X:(HK P).In W.base)(hT:W.tabs=bd):bw true W 156 (az (HK P) 156) (aS (am (ag 12) 8)) (au (am (ag 12) 8)):=
 aT.ok (zg P) X (λø=>⟨155,151,Ip P,hT▸Iq⟩) (λs vs ø hl=>by
  refine xE (dE (hl.trans (show(au (am (ag 12) 8)).length=1 by kernel_rfl))) λa zq1=> ?_;subst zq1
  exact Binds.mk_eq (Ir P a))
theorem Iv(P:ak):aT (HK P) 181 (am (ag 13) 0) (au (am (ag 13) 0)):=
 ⟨by kernel_rfl,by kernel_rfl,by kernel_rfl,by kernel_rfl,by kernel_rfl,by kernel_rfl,by kernel_rfl,by kernel_rfl,by kernel_rfl,by decide+kernel,by kernel_rfl,by kernel_rfl⟩
theorem Iw(P:ak):∀(fd:dv),fd=az (HK P) 181->∀(s:ah) (a b c:ae) (o:Obj) (m:Nat),s.heap.get? 173=some o->o.data= .seq ([.none]:List ae).toArray m->fd.defaults= .ref 173->Binds s fd ⟨[a,b,c],[]⟩ ((au (am (ag 13) 0)).zip [a,b,c]):=
 λfd hfd s a b c o m e1 e2 hd=>⟨Dm hd e1 e2 rfl (by subst hfd;kernel_rfl)⟩
theorem Ix(P:ak):(az (HK P) 181).defaults= .ref 173:=by kernel_rfl
theorem Iy{W:Wd}{P:ak}(X:(HK P).In W.base)(hT:W.tabs=bd):bw false W 181 (az (HK P) 181) (aS (am (ag 13) 0)) (au (am (ag 13) 0)):=
 aT.ok (Iv P) X (cn) (λs vs hs hl=>by
  refine wy (yW (hl.trans (show(au (am (ag 13) 0)).length=3 by kernel_rfl))) λa b c zq3=> ?_;subst zq3
  refine dR (ud (a:=173) (vs:=[.none]) X (show(match(HK P).lookup 173 with|some ⟨_,_, .seq ws _,_⟩=>ws.toList|_=>[])=[.none] by kernel_rfl) (by simp)) λo m e1 e2=> ?_
  exact Iw P _ rfl s a b c o m (hs _ _ e1) e2 (Ix P))
theorem zh(P:ak):aT (HK P) 188 (am (ag 13) 1) (au (am (ag 13) 1)):=
 ⟨by kernel_rfl,by kernel_rfl,by kernel_rfl,by kernel_rfl,by kernel_rfl,by kernel_rfl,by kernel_rfl,by kernel_rfl,by kernel_rfl,by decide+kernel,by kernel_rfl,by kernel_rfl⟩
theorem Iz(P:ak):(az (HK P) 188).code= .ref 187:=by kernel_rfl
theorem IB:(((187,183):Addr×Addr)∈bd):=by decide+kernel
theorem IE(P:ak)(a:ae):bindArgs (az (HK P) 188) ⟨[a],[]⟩=pure ((au (am (ag 13) 1)).zip [a]):=by kernel_rfl
theorem zi{W:Wd}{P:ak}(X:(HK P).In W.base)(hT:W.tabs=bd):bw true W 188 (az (HK P) 188) (aS (am (ag 13) 1)) (au (am (ag 13) 1)):=
 aT.ok (zh P) X (λø=>⟨187,183,Iz P,hT▸IB⟩) (λs vs ø hl=>by
  refine xE (dE (hl.trans (show(au (am (ag 13) 1)).length=1 by kernel_rfl))) λa zq1=> ?_;subst zq1
  exact Binds.mk_eq (IE P a))
theorem zj(P:ak):aT (HK P) 195 (am (ag 13) 2) (au (am (ag 13) 2)):=
 ⟨by kernel_rfl,by kernel_rfl,by kernel_rfl,by kernel_rfl,by kernel_rfl,by kernel_rfl,by kernel_rfl,by kernel_rfl,by kernel_rfl,by decide+kernel,by kernel_rfl,by kernel_rfl⟩
theorem IF(P:ak)(a:ae):bindArgs (az (HK P) 195) ⟨[a],[]⟩=pure ((au (am (ag 13) 2)).zip [a]):=by kernel_rfl
theorem IG{W:Wd}{P:ak}(X:(HK P).In W.base)(hT:W.tabs=bd):bw false W 195 (az (HK P) 195) (aS (am (ag 13) 2)) (au (am (ag 13) 2)):=
 aT.ok (zj P) X (cn) (λs vs ø hl=>by
  refine xE (dE (hl.trans (show(au (am (ag 13) 2)).length=1 by kernel_rfl))) λa zq1=> ?_;subst zq1
  exact Binds.mk_eq (IF P a))
theorem zk(P:ak):aT (HK P) 203 (am (ag 13) 3) (au (am (ag 13) 3)):=
 ⟨by kernel_rfl,by kernel_rfl,by kernel_rfl,by kernel_rfl,by kernel_rfl,by kernel_rfl,by kernel_rfl,by kernel_rfl,by kernel_rfl,by decide+kernel,by kernel_rfl,by kernel_rfl⟩
theorem IH(P:ak)(a:ae):bindArgs (az (HK P) 203) ⟨[a],[]⟩=pure ((au (am (ag 13) 3)).zip [a]):=by kernel_rfl
theorem zn{W:Wd}{P:ak}(X:(HK P).In W.base)(hT:W.tabs=bd):bw false W 203 (az (HK P) 203) (aS (am (ag 13) 3)) (au (am (ag 13) 3)):=
 aT.ok (zk P) X (cn) (λs vs ø hl=>by
  refine xE (dE (hl.trans (show(au (am (ag 13) 3)).length=1 by kernel_rfl))) λa zq1=> ?_;subst zq1
  exact Binds.mk_eq (IH P a))
theorem zo(P:ak):aT (HK P) 210 (am (ag 13) 4) (au (am (ag 13) 4)):=
 ⟨by kernel_rfl,by kernel_rfl,by kernel_rfl,by kernel_rfl,by kernel_rfl,by kernel_rfl,by kernel_rfl,by kernel_rfl,by kernel_rfl,by decide+kernel,by kernel_rfl,by kernel_rfl⟩
theorem II(P:ak):(az (HK P) 210).code= .ref 209:=by kernel_rfl
theorem IJ:(((209,205):Addr×Addr)∈bd):=by decide+kernel
theorem IK(P:ak)(a:ae):bindArgs (az (HK P) 210) ⟨[a],[]⟩=pure ((au (am (ag 13) 4)).zip [a]):=by kernel_rfl
theorem IL{W:Wd}{P:ak}(X:(HK P).In W.base)(hT:W.tabs=bd):bw true W 210 (az (HK P) 210) (aS (am (ag 13) 4)) (au (am (ag 13) 4)):=
 aT.ok (zo P) X (λø=>⟨209,205,II P,hT▸IJ⟩) (λs vs ø hl=>by
  refine xE (dE (hl.trans (show(au (am (ag 13) 4)).length=1 by kernel_rfl))) λa zq1=> ?_;subst zq1
  exact Binds.mk_eq (IK P a))
theorem IM(P:ak):aT (HK P) 233 (am (ag 14) 0) (au (am (ag 14) 0)):=
 ⟨by kernel_rfl,by kernel_rfl,by kernel_rfl,by kernel_rfl,by kernel_rfl,by kernel_rfl,by kernel_rfl,by kernel_rfl,by kernel_rfl,by decide+kernel,by kernel_rfl,by kernel_rfl⟩
theorem IN(P:ak):∀(fd:dv),fd=az (HK P) 233->∀(s:ah) (a b c d:ae) (o:Obj) (m:Nat),s.heap.get? 225=some o->o.data= .seq ([.none, .none]:List ae).toArray m->fd.defaults= .ref 225->Binds s fd ⟨[a,b,c,d],[]⟩ ((au (am (ag 14) 0)).zip [a,b,c,d]):=
 λfd hfd s a b c d o m e1 e2 hd=>⟨Dm hd e1 e2 rfl (by subst hfd;kernel_rfl)⟩
theorem IP(P:ak):(az (HK P) 233).defaults= .ref 225:=by kernel_rfl
theorem IQ{W:Wd}{P:ak}(X:(HK P).In W.base)(hT:W.tabs=bd):bw false W 233 (az (HK P) 233) (aS (am (ag 14) 0)) (au (am (ag 14) 0)):=
 aT.ok (IM P) X (cn) (λs vs hs hl=>by
  refine wA (H8 (hl.trans (show(au (am (ag 14) 0)).length=4 by kernel_rfl))) λa b c d zq4=> ?_;subst zq4
  refine dR (ud (a:=225) (vs:=[.none, .none]) X (show(match(HK P).lookup 225 with|some ⟨_,_, .seq ws _,_⟩=>ws.toList|_=>[])=[.none, .none] by kernel_rfl) (by simp)) λo m e1 e2=> ?_
  exact IN P _ rfl s a b c d o m (hs _ _ e1) e2 (IP P))
theorem zt(P:ak):aT (HK P) 240 (am (ag 14) 1) (au (am (ag 14) 1)):=
 ⟨by kernel_rfl,by kernel_rfl,by kernel_rfl,by kernel_rfl,by kernel_rfl,by kernel_rfl,by kernel_rfl,by kernel_rfl,by kernel_rfl,by decide+kernel,by kernel_rfl,by kernel_rfl⟩
theorem IR(P:ak):(az (HK P) 240).code= .ref 239:=by kernel_rfl
theorem IS:(((239,235):Addr×Addr)∈bd):=by decide+kernel
theorem IT(P:ak)(a:ae):bindArgs (az (HK P) 240) ⟨[a],[]⟩=pure ((au (am (ag 14) 1)).zip [a]):=by kernel_rfl
theorem zu{W:Wd}{P:ak}(X:(HK P).In W.base)(hT:W.tabs=bd):bw true W 240 (az (HK P) 240) (aS (am (ag 14) 1)) (au (am (ag 14) 1)):=
 aT.ok (zt P) X (λø=>⟨239,235,IR P,hT▸IS⟩) (λs vs ø hl=>by
  refine xE (dE (hl.trans (show(au (am (ag 14) 1)).length=1 by kernel_rfl))) λa zq1=> ?_;subst zq1
  exact Binds.mk_eq (IT P a))
theorem zv(P:ak):aT (HK P) 247 (am (ag 14) 2) (au (am (ag 14) 2)):=
 ⟨by kernel_rfl,by kernel_rfl,by kernel_rfl,by kernel_rfl,by kernel_rfl,by kernel_rfl,by kernel_rfl,by kernel_rfl,by kernel_rfl,by decide+kernel,by kernel_rfl,by kernel_rfl⟩
theorem IU(P:ak)(a:ae):bindArgs (az (HK P) 247) ⟨[a],[]⟩=pure ((au (am (ag 14) 2)).zip [a]):=by kernel_rfl
theorem IV{W:Wd}{P:ak}(X:(HK P).In W.base)(hT:W.tabs=bd):bw false W 247 (az (HK P) 247) (aS (am (ag 14) 2)) (au (am (ag 14) 2)):=
 aT.ok (zv P) X (cn) (λs vs ø hl=>by
  refine xE (dE (hl.trans (show(au (am (ag 14) 2)).length=1 by kernel_rfl))) λa zq1=> ?_;subst zq1
  exact Binds.mk_eq (IU P a))
theorem zw(P:ak):aT (HK P) 255 (am (ag 14) 3) (au (am (ag 14) 3)):=
 ⟨by kernel_rfl,by kernel_rfl,by kernel_rfl,by kernel_rfl,by kernel_rfl,by kernel_rfl,by kernel_rfl,by kernel_rfl,by kernel_rfl,by decide+kernel,by kernel_rfl,by kernel_rfl⟩
theorem IW(P:ak)(a:ae):bindArgs (az (HK P) 255) ⟨[a],[]⟩=pure ((au (am (ag 14) 3)).zip [a]):=by kernel_rfl
theorem IX{W:Wd}{P:ak}(X:(HK P).In W.base)(hT:W.tabs=bd):bw false W 255 (az (HK P) 255) (aS (am (ag 14) 3)) (au (am (ag 14) 3)):=
 aT.ok (zw P) X (cn) (λs vs ø hl=>by
  refine xE (dE (hl.trans (show(au (am (ag 14) 3)).length=1 by kernel_rfl))) λa zq1=> ?_;subst zq1
  exact Binds.mk_eq (IW P a))
theorem zx(P:ak):aT (HK P) 263 (am (ag 14) 4) (au (am (ag 14) 4)):=
 ⟨by kernel_rfl,by kernel_rfl,by kernel_rfl,by kernel_rfl,by kernel_rfl,by kernel_rfl,by kernel_rfl,by kernel_rfl,by kernel_rfl,by decide+kernel,by kernel_rfl,by kernel_rfl⟩
theorem IY(P:ak)(a:ae):bindArgs (az (HK P) 263) ⟨[a],[]⟩=pure ((au (am (ag 14) 4)).zip [a]):=by kernel_rfl
theorem zy{W:Wd}{P:ak}(X:(HK P).In W.base)(hT:W.tabs=bd):bw false W 263 (az (HK P) 263) (aS (am (ag 14) 4)) (au (am (ag 14) 4)):=
 aT.ok (zx P) X (cn) (λs vs ø hl=>by
  refine xE (dE (hl.trans (show(au (am (ag 14) 4)).length=1 by kernel_rfl))) λa zq1=> ?_;subst zq1
  exact Binds.mk_eq (IY P a))
theorem zA(P:ak):aT (HK P) 275 (ag 16) (au (ag 16)):=
 ⟨by kernel_rfl,by kernel_rfl,by kernel_rfl,by kernel_rfl,by kernel_rfl,by kernel_rfl,by kernel_rfl,by kernel_rfl,by kernel_rfl,by decide+kernel,by kernel_rfl,by kernel_rfl⟩
theorem IZ(P:ak):bindArgs (az (HK P) 275) ⟨[],[]⟩=pure ((au (ag 16)).zip []):=by kernel_rfl
theorem zB{W:Wd}{P:ak}(X:(HK P).In W.base)(hT:W.tabs=bd):bw false W 275 (az (HK P) 275) (aS (ag 16)) (au (ag 16)):=
 aT.ok (zA P) X (cn) (λs vs ø hl=>by
  obtain rfl:=uc (hl.trans (show(au (ag 16)).length=0 by kernel_rfl))
  exact Binds.mk_eq (IZ P))
theorem zD(P:ak):aT (HK P) 282 (ag 17) (au (ag 17)):=
 ⟨by kernel_rfl,by kernel_rfl,by kernel_rfl,by kernel_rfl,by kernel_rfl,by kernel_rfl,by kernel_rfl,by kernel_rfl,by kernel_rfl,by decide+kernel,by kernel_rfl,by kernel_rfl⟩
theorem I0(P:ak):bindArgs (az (HK P) 282) ⟨[],[]⟩=pure ((au (ag 17)).zip []):=by kernel_rfl
theorem zE{W:Wd}{P:ak}(X:(HK P).In W.base)(hT:W.tabs=bd):bw false W 282 (az (HK P) 282) (aS (ag 17)) (au (ag 17)):=
 aT.ok (zD P) X (cn) (λs vs ø hl=>by
  obtain rfl:=uc (hl.trans (show(au (ag 17)).length=0 by kernel_rfl))
  exact Binds.mk_eq (I0 P))
theorem zF(P:ak):aT (HK P) 289 (ag 18) (au (ag 18)):=
 ⟨by kernel_rfl,by kernel_rfl,by kernel_rfl,by kernel_rfl,by kernel_rfl,by kernel_rfl,by kernel_rfl,by kernel_rfl,by kernel_rfl,by decide+kernel,by kernel_rfl,by kernel_rfl⟩
theorem I1(P:ak):bindArgs (az (HK P) 289) ⟨[],[]⟩=pure ((au (ag 18)).zip []):=by kernel_rfl
theorem zG{W:Wd}{P:ak}(X:(HK P).In W.base)(hT:W.tabs=bd):bw false W 289 (az (HK P) 289) (aS (ag 18)) (au (ag 18)):=
 aT.ok (zF P) X (cn) (λs vs ø hl=>by
  obtain rfl:=uc (hl.trans (show(au (ag 18)).length=0 by kernel_rfl))
  exact Binds.mk_eq (I1 P))
theorem I3(P:ak):aT (HK P) 296 (ag 19) (au (ag 19)):=
 ⟨by kernel_rfl,by kernel_rfl,by kernel_rfl,by kernel_rfl,by kernel_rfl,by kernel_rfl,by kernel_rfl,by kernel_rfl,by kernel_rfl,by decide+kernel,by kernel_rfl,by kernel_rfl⟩
theorem I4(P:ak)(a:ae):bindArgs (az (HK P) 296) ⟨[a],[]⟩=pure ((au (ag 19)).zip [a]):=by kernel_rfl
theorem ue{W:Wd}{P:ak}(X:(HK P).In W.base)(hT:W.tabs=bd):bw false W 296 (az (HK P) 296) (aS (ag 19)) (au (ag 19)):=
 aT.ok (I3 P) X (cn) (λs vs ø hl=>by
  refine xE (dE (hl.trans (show(au (ag 19)).length=1 by kernel_rfl))) λa zq1=> ?_;subst zq1
  exact Binds.mk_eq (I4 P a))
theorem zH(P:ak):aT (HK P) 306 (ag 21) (au (ag 21)):=
 ⟨by kernel_rfl,by kernel_rfl,by kernel_rfl,by kernel_rfl,by kernel_rfl,by kernel_rfl,by kernel_rfl,by kernel_rfl,by kernel_rfl,by decide+kernel,by kernel_rfl,by kernel_rfl⟩
theorem I5(P:ak)(a:ae):bindArgs (az (HK P) 306) ⟨[a],[]⟩=pure ((au (ag 21)).zip [a]):=by kernel_rfl
theorem zI{W:Wd}{P:ak}(X:(HK P).In W.base)(hT:W.tabs=bd):bw false W 306 (az (HK P) 306) (aS (ag 21)) (au (ag 21)):=
 aT.ok (zH P) X (cn) (λs vs ø hl=>by
  refine xE (dE (hl.trans (show(au (ag 21)).length=1 by kernel_rfl))) λa zq1=> ?_;subst zq1
  exact Binds.mk_eq (I5 P a))
theorem I6(P:ak):aT (HK P) 313 (ag 22) (au (ag 22)):=
 ⟨by kernel_rfl,by kernel_rfl,by kernel_rfl,by kernel_rfl,by kernel_rfl,by kernel_rfl,by kernel_rfl,by kernel_rfl,by kernel_rfl,by decide+kernel,by kernel_rfl,by kernel_rfl⟩
theorem I7(P:ak)(a:ae):bindArgs (az (HK P) 313) ⟨[a],[]⟩=pure ((au (ag 22)).zip [a]):=by kernel_rfl
theorem zJ{W:Wd}{P:ak}(X:(HK P).In W.base)(hT:W.tabs=bd):bw false W 313 (az (HK P) 313) (aS (ag 22)) (au (ag 22)):=
 aT.ok (I6 P) X (cn) (λs vs ø hl=>by
  refine xE (dE (hl.trans (show(au (ag 22)).length=1 by kernel_rfl))) λa zq1=> ?_;subst zq1
  exact Binds.mk_eq (I7 P a))
theorem zK(P:ak):aT (HK P) 318 (ag 23) (au (ag 23)):=
 ⟨by kernel_rfl,by kernel_rfl,by kernel_rfl,by kernel_rfl,by kernel_rfl,by kernel_rfl,by kernel_rfl,by kernel_rfl,by kernel_rfl,by decide+kernel,by kernel_rfl,by kernel_rfl⟩
theorem I8(P:ak)(a:ae):bindArgs (az (HK P) 318) ⟨[a],[]⟩=pure ((au (ag 23)).zip [a]):=by kernel_rfl
theorem zL{W:Wd}{P:ak}(X:(HK P).In W.base)(hT:W.tabs=bd):bw false W 318 (az (HK P) 318) (aS (ag 23)) (au (ag 23)):=
 aT.ok (zK P) X (cn) (λs vs ø hl=>by
  refine xE (dE (hl.trans (show(au (ag 23)).length=1 by kernel_rfl))) λa zq1=> ?_;subst zq1
  exact Binds.mk_eq (I8 P a))
theorem zM(P:ak):aT (HK P) 323 (ag 24) (au (ag 24)):=
 ⟨by kernel_rfl,by kernel_rfl,by kernel_rfl,by kernel_rfl,by kernel_rfl,by kernel_rfl,by kernel_rfl,by kernel_rfl,by kernel_rfl,by decide+kernel,by kernel_rfl,by kernel_rfl⟩
theorem I9(P:ak)(a:ae):bindArgs (az (HK P) 323) ⟨[a],[]⟩=pure ((au (ag 24)).zip [a]):=by kernel_rfl
theorem zN{W:Wd}{P:ak}(X:(HK P).In W.base)(hT:W.tabs=bd):bw false W 323 (az (HK P) 323) (aS (ag 24)) (au (ag 24)):=
 aT.ok (zM P) X (cn) (λs vs ø hl=>by
  refine xE (dE (hl.trans (show(au (ag 24)).length=1 by kernel_rfl))) λa zq1=> ?_;subst zq1
  exact Binds.mk_eq (I9 P a))
theorem zO(P:ak):aT (HK P) 328 (ag 25) (au (ag 25)):=
 ⟨by kernel_rfl,by kernel_rfl,by kernel_rfl,by kernel_rfl,by kernel_rfl,by kernel_rfl,by kernel_rfl,by kernel_rfl,by kernel_rfl,by decide+kernel,by kernel_rfl,by kernel_rfl⟩
theorem Ja(P:ak)(a:ae):bindArgs (az (HK P) 328) ⟨[a],[]⟩=pure ((au (ag 25)).zip [a]):=by kernel_rfl
theorem zP{W:Wd}{P:ak}(X:(HK P).In W.base)(hT:W.tabs=bd):bw false W 328 (az (HK P) 328) (aS (ag 25)) (au (ag 25)):=
 aT.ok (zO P) X (cn) (λs vs ø hl=>by
  refine xE (dE (hl.trans (show(au (ag 25)).length=1 by kernel_rfl))) λa zq1=> ?_;subst zq1
  exact Binds.mk_eq (Ja P a))
theorem zQ(P:ak):aT (HK P) 333 (ag 26) (au (ag 26)):=
 ⟨by kernel_rfl,by kernel_rfl,by kernel_rfl,by kernel_rfl,by kernel_rfl,by kernel_rfl,by kernel_rfl,by kernel_rfl,by kernel_rfl,by decide+kernel,by kernel_rfl,by kernel_rfl⟩
theorem Jb(P:ak)(a:ae):bindArgs (az (HK P) 333) ⟨[a],[]⟩=pure ((au (ag 26)).zip [a]):=by kernel_rfl
theorem zR{W:Wd}{P:ak}(X:(HK P).In W.base)(hT:W.tabs=bd):bw false W 333 (az (HK P) 333) (aS (ag 26)) (au (ag 26)):=
 aT.ok (zQ P) X (cn) (λs vs ø hl=>by
  refine xE (dE (hl.trans (show(au (ag 26)).length=1 by kernel_rfl))) λa zq1=> ?_;subst zq1
  exact Binds.mk_eq (Jb P a))
theorem zS(P:ak):aT (HK P) 340 (ag 27) (au (ag 27)):=
 ⟨by kernel_rfl,by kernel_rfl,by kernel_rfl,by kernel_rfl,by kernel_rfl,by kernel_rfl,by kernel_rfl,by kernel_rfl,by kernel_rfl,by decide+kernel,by kernel_rfl,by kernel_rfl⟩
theorem Jc(P:ak)(a:ae):bindArgs (az (HK P) 340) ⟨[a],[]⟩=pure ((au (ag 27)).zip [a]):=by kernel_rfl
theorem zT{W:Wd}{P:ak}(X:(HK P).In W.base)(hT:W.tabs=bd):bw false W 340 (az (HK P) 340) (aS (ag 27)) (au (ag 27)):=
 aT.ok (zS P) X (cn) (λs vs ø hl=>by
  refine xE (dE (hl.trans (show(au (ag 27)).length=1 by kernel_rfl))) λa zq1=> ?_;subst zq1
  exact Binds.mk_eq (Jc P a))
theorem zU(P:ak):aT (HK P) 345 (ag 28) (au (ag 28)):=
 ⟨by kernel_rfl,by kernel_rfl,by kernel_rfl,by kernel_rfl,by kernel_rfl,by kernel_rfl,by kernel_rfl,by kernel_rfl,by kernel_rfl,by decide+kernel,by kernel_rfl,by kernel_rfl⟩
theorem Jd(P:ak)(a:ae):bindArgs (az (HK P) 345) ⟨[a],[]⟩=pure ((au (ag 28)).zip [a]):=by kernel_rfl
theorem zV{W:Wd}{P:ak}(X:(HK P).In W.base)(hT:W.tabs=bd):bw false W 345 (az (HK P) 345) (aS (ag 28)) (au (ag 28)):=
 aT.ok (zU P) X (cn) (λs vs ø hl=>by
  refine xE (dE (hl.trans (show(au (ag 28)).length=1 by kernel_rfl))) λa zq1=> ?_;subst zq1
  exact Binds.mk_eq (Jd P a))
end
section
theorem Je(P:ak):∀c d b,jA (match d with|XC.parse=>aa "ParseError" |XC.value=>aa "ValueError" |XC.abi=>aa "ABITypeError") c=some b->exmOne (HK P) (lR c) (lR d)=some b:=λc d b h=>by
 have key:∀c d,exmOne (HK P) (lR c) (lR d)=jA (match d with|XC.parse=>aa "ParseError" |XC.value=>aa "ValueError" |XC.abi=>aa "ABITypeError") c:=λc d=>by
  cases c<;>cases d<;>kernel_rfl
 rw[key,h]
theorem Jf(P:ak):∀c,subIn (HK P) (lR c) (.type "AttributeError")=some false:=λc=>by cases c<;>kernel_rfl
theorem Jg(P:ak):excIn (HK P) 24 [.type "Exception", .type "BaseException", .type "object"] "Exception.__new__" =true:=by kernel_rfl
theorem Jh(P:ak):excIn (HK P) 37 [.type "ValueError", .type "Exception", .type "BaseException", .type "object"] "ValueError.__new__" =true:=by kernel_rfl
theorem Ji(P:ak):nsIn (HK P) mainGlobals "ParseError" =some (some (.ref 24)):=by kernel_rfl
theorem Jj(P:ak):nsIn (HK P) mainGlobals "ABITypeError" =some (some (.ref 37)):=by kernel_rfl
section
variable{w:fb}{h:Heap}{mg mb:Str->Option ae}
theorem Jk{p:j8}{loose:List Str}(O:aZ (wd w h mg mb))(T:TopRead p loose mg mb (ghostOf h bd)):tT (wd w h mg mb) 24 37 where
 value:=rfl
 parse:=rfl
 abi:=rfl
 ownP:=own_of_in (K:=HK w.params) O.kin T (Ji _) (Jg _)
 ownT:=own_of_in (K:=HK w.params) O.kin T (Jj _) (Jh _)
 exm:=Je w.params
theorem zW{K:Frag}{h:Heap}(X:K.In h){c:Addr}{v:ae}(e:(match K.lookup c with|some ⟨_,_, .cell u,_⟩=>u|_=>none)=some v):h.IsCell c (some v):=by
 split at e
 ·rename_i ho
  subst e
  exact⟨_,X _ _ ho,rfl⟩
 ·exact al e
theorem zX{K:Frag}{h:Heap}(X:K.In h){c:Addr}(f:String)(e:(match K.lookup c with|some ⟨_,_, .fields vs,_⟩=>(match(vs[2]? :Option ae)with|some (.str x _)=>((f:Str)==x)|_=>false)|_=>false)=true):
  ∃o vs file tf,h.get? c=some o/\ o.data= .fields vs/\ vs[2]? =some (.str file tf)/\ ((f:Str)==file)=true:=by
 split at e
 ·rename_i ho
  split at e
  ·rename_i hv
   exact⟨_,_,_,_,X _ _ ho,rfl,hv,e⟩
  ·exact bV e
 ·exact bV e
end
theorem Jl(P:ak):makesIn (HK P) 214=true:=by kernel_rfl
theorem Jm(P:ak):findIn (HK P) (.ref 214) "__init__" =some (some (.ref 181)):=by kernel_rfl
theorem Jn(P:ak):typeIn (HK P) (.ref 181)=some (.type "function"):=by kernel_rfl
theorem Jo(P:ak):(az (HK P) 181).closure=[(aa "__class__",168)]:=by kernel_rfl
theorem Jp(P:ak):(match(HK P).lookup 168 with|some ⟨_,_, .cell u,_⟩=>u|_=>none)=some (.ref 214):=by kernel_rfl
theorem Jq(P:ak):(((az (HK P) 181).params.posonlyargs++(az (HK P) 181).params.args).head?).map (·.arg)=some (aa "self"):=by kernel_rfl
theorem Jr(P:ak):(az (HK P) 181).code= .ref 180:=by kernel_rfl
theorem Js(P:ak):(match(HK P).lookup 180 with|some ⟨_,_, .fields vs,_⟩=>(match(vs[2]? :Option ae)with|some (.str x _)=>((ig.main.file:Str)==x)|_=>false)|_=>false)=true:=by kernel_rfl
theorem Jt(P:ak):(az (HK P) 181).scope.names.lookup (aa "super")=some .globalImplicit:=by kernel_rfl
theorem Ju(P:ak):(az (HK P) 181).scope.names.lookup (aa "__class__")=some .free:=by kernel_rfl
theorem Jv(P:ak):mroIn (HK P) 214 (.ref 214)=some true:=by kernel_rfl
theorem Jw(P:ak):wj (HK P) 214 214 "__init__" =some (some (.ref 97)):=by kernel_rfl
theorem Jx(P:ak):findIn (HK P) (.ref 214) "__setattr__" =some (some (.builtin "object.__setattr__")):=by kernel_rfl
theorem Jy(P:ak):plainOver (HK P) 214=true:=by kernel_rfl
theorem Jz(P:ak):∀a∈dL,takerIn (HK P) 214 a=some none:=λa ha=>by
 have h:dL.all (λa=>takerIn (HK P) 214 a==some none)=true:=by kernel_rfl
 exact beq_iff_eq.mp (ba.mp h a ha)
theorem JA(P:ak):makesIn (HK P) 266=true:=by kernel_rfl
theorem JB(P:ak):findIn (HK P) (.ref 266) "__init__" =some (some (.ref 233)):=by kernel_rfl
theorem JC(P:ak):typeIn (HK P) (.ref 233)=some (.type "function"):=by kernel_rfl
theorem JD(P:ak):(az (HK P) 233).closure=[(aa "__class__",220)]:=by kernel_rfl
theorem JE(P:ak):(match(HK P).lookup 220 with|some ⟨_,_, .cell u,_⟩=>u|_=>none)=some (.ref 266):=by kernel_rfl
theorem JF(P:ak):(((az (HK P) 233).params.posonlyargs++(az (HK P) 233).params.args).head?).map (·.arg)=some (aa "self"):=by kernel_rfl
theorem JG(P:ak):(az (HK P) 233).code= .ref 232:=by kernel_rfl
theorem JH(P:ak):(match(HK P).lookup 232 with|some ⟨_,_, .fields vs,_⟩=>(match(vs[2]? :Option ae)with|some (.str x _)=>((ig.main.file:Str)==x)|_=>false)|_=>false)=true:=by kernel_rfl
theorem JI(P:ak):(az (HK P) 233).scope.names.lookup (aa "super")=some .globalImplicit:=by kernel_rfl
theorem JJ(P:ak):(az (HK P) 233).scope.names.lookup (aa "__class__")=some .free:=by kernel_rfl
theorem JK(P:ak):mroIn (HK P) 266 (.ref 266)=some true:=by kernel_rfl
theorem JL(P:ak):wj (HK P) 266 266 "__init__" =some (some (.ref 97)):=by kernel_rfl
theorem JM(P:ak):findIn (HK P) (.ref 266) "__setattr__" =some (some (.builtin "object.__setattr__")):=by kernel_rfl
theorem JN(P:ak):plainOver (HK P) 266=true:=by kernel_rfl
theorem JO(P:ak):∀a∈dL,takerIn (HK P) 266 a=some none:=λa ha=>by
 have h:dL.all (λa=>takerIn (HK P) 266 a==some none)=true:=by kernel_rfl
 exact beq_iff_eq.mp (ba.mp h a ha)
theorem zY:(ig.main.scope.names.lookup (aa "super")).isSome=false:=by kernel_rfl
theorem zZ(P:ak):typeIn (HK P) (.ref 97)=some (.type "function"):=by kernel_rfl
theorem z0(P:ak):fnIn (HK P) 97=true:=by kernel_rfl
theorem z3(P:ak):nsIn (HK P) cStatics "thirdparty.any" =some none:=by kernel_rfl
theorem z4:au (am (ag 12) 0)=[aa "self",aa "arrlist"]:=by kernel_rfl
section
variable{w:fb}{h:Heap}{mg mb:Str->Option ae}
theorem JP:aS (am (ag 13) 0)= .Expr (.Call (.Attribute (.Call (.Name "super" ⟨107,8,107,13⟩) [] [] ⟨107,8,107,15⟩) "__init__" ⟨107,8,107,24⟩) [.Name "arrlist" ⟨107,25,107,32⟩] [] ⟨107,8,107,33⟩) ⟨107,8,107,33⟩::(aS (am (ag 13) 0)).drop 1:=by kernel_rfl
theorem JQ:au (am (ag 13) 0)=aa "self" ::[aa "components",aa "arrlist"]:=by kernel_rfl
theorem JR(O:aZ (wd w h mg mb)):tR (wd w h mg mb) .tup 181 97 168 180 (az (HK w.params) 181) (az (HK w.params) 97) [aa "components",aa "arrlist"] ⟨107,8,107,13⟩ ⟨107,8,107,15⟩ ⟨107,8,107,24⟩ ⟨107,25,107,32⟩ ⟨107,8,107,33⟩ ⟨107,8,107,33⟩ ((aS (am (ag 13) 0)).drop 1) (aS (am (ag 12) 0)) [(aa "components",aa "components")]:=by
 have X:(HK w.params).In (ghostOf h bd):=O.kin
 have D:=Iy (W:=wd w h mg mb) (P:=w.params) X rfl
 rw[JP,JQ]at D
 have DB:=zb (W:=wd w h mg mb) (P:=w.params) X rfl
 rw[z4]at DB
 exact {makes:=Jl w.params,init:=Jm w.params,initF:=Jn w.params,D:=D,clos:=Jo w.params,cell:=zW X (Jp w.params),self1:=Jq w.params,code:=Jr w.params,file:=zX X _ (Js w.params),line:=by decide,top:=zY,nsuper:=Jt w.params,ncls:=Ju w.params,cls:=let ⟨cd,e,_⟩:=O.cd .tup;⟨cd,e⟩,sub:=Jv w.params,up:=Jw w.params,upF:=zZ w.params,upD:=z0 w.params,noany:=z3 w.params,DB:=DB,iniB:= .fld (by decide+kernel) (.doc .nil),ini:= .fld (by decide+kernel) (.doc .nil),setattr:=Jx w.params,over:=Jy w.params,taker:=Jz w.params,arr:=by simp,from_:=by simp[dL],nd:=by decide+kernel,short:=by decide}
theorem JS:aS (am (ag 14) 0)= .Expr (.Call (.Attribute (.Call (.Name "super" ⟨137,8,137,13⟩) [] [] ⟨137,8,137,15⟩) "__init__" ⟨137,8,137,24⟩) [.Name "arrlist" ⟨137,25,137,32⟩] [] ⟨137,8,137,33⟩) ⟨137,8,137,33⟩::(aS (am (ag 14) 0)).drop 1:=by kernel_rfl
theorem JT:au (am (ag 14) 0)=aa "self" ::[aa "base",aa "sub",aa "arrlist"]:=by kernel_rfl
theorem JU(O:aZ (wd w h mg mb)):tR (wd w h mg mb) .bas 233 97 220 232 (az (HK w.params) 233) (az (HK w.params) 97) [aa "base",aa "sub",aa "arrlist"] ⟨137,8,137,13⟩ ⟨137,8,137,15⟩ ⟨137,8,137,24⟩ ⟨137,25,137,32⟩ ⟨137,8,137,33⟩ ⟨137,8,137,33⟩ ((aS (am (ag 14) 0)).drop 1) (aS (am (ag 12) 0)) [(aa "base",aa "base"),(aa "sub",aa "sub")]:=by
 have X:(HK w.params).In (ghostOf h bd):=O.kin
 have D:=IQ (W:=wd w h mg mb) (P:=w.params) X rfl
 rw[JS,JT]at D
 have DB:=zb (W:=wd w h mg mb) (P:=w.params) X rfl
 rw[z4]at DB
 exact {makes:=JA w.params,init:=JB w.params,initF:=JC w.params,D:=D,clos:=JD w.params,cell:=zW X (JE w.params),self1:=JF w.params,code:=JG w.params,file:=zX X _ (JH w.params),line:=by decide,top:=zY,nsuper:=JI w.params,ncls:=JJ w.params,cls:=let ⟨cd,e,_⟩:=O.cd .bas;⟨cd,e⟩,sub:=JK w.params,up:=JL w.params,upF:=zZ w.params,upD:=z0 w.params,noany:=z3 w.params,DB:=DB,iniB:= .fld (by decide+kernel) (.doc .nil),ini:= .fld (by decide+kernel) (.doc (.fld (by decide+kernel) (.doc .nil))),setattr:=JM w.params,over:=JN w.params,taker:=JO w.params,arr:=by simp,from_:=by simp[dL],nd:=by decide+kernel,short:=by decide}
end
end
section
noncomputable def aN(C:Calls)(gen:Bool)(st:aC)(args:List PV):Res PV:=
 if args.length=(au st).length then jG (aw (pX C gen 12 (cg st)) (aS st) ((au st).zip args))else .stuck
noncomputable def z5:List Str:=[aa "components",aa "arrlist"]
noncomputable def z6:List Str:=[aa "base",aa "sub",aa "arrlist"]
noncomputable def JV:List (Str×Str):=[(aa "components",aa "components")]
noncomputable def JW:List (Str×Str):=[(aa "base",aa "base"),(aa "sub",aa "sub")]
noncomputable def g9(f:Str)(args:List PV):Res PV:=
 if f=aa "TupleType" then(if args.length=z5.length then .ok (tS .tup z5 JV args)else .stuck)
 else if f=aa "BasicType" then(if args.length=z6.length then .ok (tS .bas z6 JW args)else .stuck)
 else .stuck
noncomputable def pL:Res PV->Res PV
 | .ok (.bool b)=> .ok (.bool b)
 | .exc c=> .exc c
 |_=> .stuck
noncomputable def jJ:aC:=am (ag 12) 1
noncomputable def i5(C:Calls)(args:List PV):Res PV:=
 if args.length=(au jJ).length then pL (jG (aw (ny (pE C false 24) (cg jJ)) (aS jJ) ((au jJ).zip args)))else .stuck
noncomputable def i6(C:Calls)(c:aY)(m:Str)(args:List PV):Res PV:=
 if m=aa "to_type_str" then(match c with| .tup=>aN C true (am (ag 13) 1) args| .bas=>aN C true (am (ag 14) 1) args)
 else if m=aa "validate" then(match c with| .tup=>aN C false (am (ag 13) 3) args| .bas=>aN C false (am (ag 14) 4) args)
 else if m=aa "invalidate" then aN C false (am (ag 12) 5) args
 else if m=aa "__eq__" then i5 C args
 else .stuck
noncomputable def jK(C:Calls)(c:aY)(a:Str)(v:PV):Res PV:=
 if a=aa "is_array" then aN C false (am (ag 12) 6) [v]
 else if a=aa "_has_dynamic_arrlist" then aN C true (am (ag 12) 8) [v]
 else if a=aa "item_type" then(match c with| .tup=>aN C false (am (ag 13) 2) [v]| .bas=>aN C false (am (ag 14) 2) [v])
 else if a=aa "is_dynamic" then(match c with| .tup=>aN C true (am (ag 13) 4) [v]| .bas=>aN C false (am (ag 14) 3) [v])
 else .stuck
noncomputable def jL:List Nat:=an (aa "ABCDEFGHIJKLMNOPQRSTUVWXYZabcdefghijklmnopqrstuvwxyz")
noncomputable def gr:List Nat:=an (aa "0123456789")
noncomputable def lS(x:Str):Option PV:=if x=aa "_LETTERS" then some (.str jL)else if x=aa "_DIGITS" then some (.str gr)else none
noncomputable def pM:Calls:=⟨λø ø=> .stuck,λø ø ø=> .stuck,λø ø ø=> .stuck,λø=>none⟩
noncomputable def bh:Nat->Calls
 |0=>pM
 |j+1=>⟨g9,i6 (bh j),jK (bh j),lS⟩
noncomputable def pN:List (Str×aC):=[(aa "_parse_digits",ag 6),(aa "_parse_arrlist",ag 7),(aa "_parse_sub",ag 8),(aa "_parse_tuple_type",ag 9),(aa "_parse_type",ag 10),(aa "parse",ag 11),
 (aa "_law_names",ag 16),(aa "_law_subs",ag 17),(aa "_law_marks",ag 18),(aa "_law_number",ag 21),(aa "_law_name",ag 23),(aa "_law_read",ag 24),(aa "_law_varies",ag 25),(aa "_law_valid",ag 26),(aa "_law_told",ag 27),(aa "_law_agrees",ag 28)]
noncomputable def i7(C:Calls)(f:Str)(args:List PV):Res PV:=match pN.lookup f with
 |some st=>aN C false st args
 |none=>if f=aa "_law_parts" then(match args with
   |[.str x]=>if x.length<=aX then .ok (.list ((cz x).map .str))else .stuck
   |_=> .stuck)
  else g9 f args
noncomputable def fw(J:Nat):Nat->Calls
 |0=>bh J
 |k+1=>⟨i7 (fw J k),(bh J).meth,(bh J).prop,(bh J).glob⟩
section
variable{W:Wd}{n n':Nat}
theorem f8.mono{fv:ae}{args:List PV}{r:Res PV}(h:f8 W n fv args r)(hn:n<=n'):f8 W n' fv args r:=λA l s X vs R ra hne hd hu=>h A l s X vs R ra hne (rP ‹_› ‹_›) (rQ ‹_› ‹_›)
theorem gb.mono{fv:ae}{args:List PV}{r:Res PV}(h:gb W n fv args r)(hn:n<=n'):gb W n' fv args r:=λA l s X vs R ra hne hd hu=>h A l s X vs R ra hne (rP ‹_› ‹_›) (rQ ‹_› ‹_›)
theorem cq{fv:ae}{args:List PV}:f8 W n fv args .stuck:=λA l s X vs R ra hne=>absurd rfl hne
theorem pO{fv:ae}{args:List PV}:gb W n fv args .stuck:=λA l s X vs R ra hne=>absurd rfl hne
theorem cA(O:aZ W){C:Calls}{g gen:Bool}{N:Nat}{fa:Addr}{fd:dv}{st:aC}(D:bw g W fa fd (aS st) (au st))(hsc:fd.scope=cg st)(hX:fu g W N (pX C gen 12))(args:List PV):gb W (N+2) (.ref fa) args (aN C gen st args):=by
 unfold aN
 split
 ·rename_i h
  have:=tP O D hX args h
  rwa [hsc]at this
 ·exact pO
end
end
section
section
variable{W:Wd}{n:Nat}
theorem uf{fa:Addr}(h:∃o,W.base.get? fa=some o/\ ∃fd,o.data= .func fd):b7 W (.ref fa):=by
 refine Dw h λo h1 fd h2=> ?_
 exact FM h1 h2
theorem z7(O:aZ W){C:Addr}(hk:keepIn W.K (.ref C)=true):b7 W (.ref C):=λA E s pos first args Q ha h=>
 callWith_of (P:=λh=>W.K.In h) (by rw[ha];rfl) (keeps_K hk) (fL h (λa s₁ y=>⟨y.1.kin O,y.2⟩) λø ø z=>z)
noncomputable def bo(W:Wd)(n:Nat)(f:Str)(r:List PV->Res PV):Prop:=∃fv,W.mg f=some fv/\ b7 W fv/\ ∀args,f8 W n fv args (r args)
end
section
variable{w:fb}{h:Heap}{mg mb:Str->Option ae}{p:j8}{loose:List Str}
structure bb(w:fb)(h:Heap)(mg mb:Str->Option ae):Prop where
 O:aZ (wd w h mg mb)
 X0:kG (wd w h mg mb)
 H:pI (wd w h mg mb)
variable{n:Nat}{C:Calls}
theorem dj(Z:bb w h mg mb)(hC:bu (wd w h mg mb) n C):fu false (wd w h mg mb) n (pX C false 12):=Hd Z.O Z.X0 hC (yJ Z.H) 12
theorem pQ(Z:bb w h mg mb)(hC:bu (wd w h mg mb) n C):fu true (wd w h mg mb) (n+4) (pX C true 12):=Hc Z.O Z.X0 hC (yJ Z.H) 12
theorem bS{g:Bool}{fa:Addr}{fd:dv}{body:List aC}{params:List Str}(D:bw g (wd w h mg mb) fa fd body params):b7 (wd w h mg mb) (.ref fa):=by
 refine ay D.at_ λo e1 e2=> ?_
 exact uf ⟨o,e1,fd,e2⟩
theorem z8(P:ak):nsIn (HK P) mainGlobals (aa "_parse_digits")=some (some (.ref 47)):=by kernel_rfl
theorem z9(P:ak):nsIn (HK P) mainGlobals (aa "_parse_arrlist")=some (some (.ref 54)):=by kernel_rfl
theorem Aa(P:ak):nsIn (HK P) mainGlobals (aa "_parse_sub")=some (some (.ref 61)):=by kernel_rfl
theorem Ab(P:ak):nsIn (HK P) mainGlobals (aa "_parse_tuple_type")=some (some (.ref 68)):=by kernel_rfl
theorem Ac(P:ak):nsIn (HK P) mainGlobals (aa "_parse_type")=some (some (.ref 75)):=by kernel_rfl
theorem Ad(P:ak):nsIn (HK P) mainGlobals (aa "parse")=some (some (.ref 82)):=by kernel_rfl
theorem Ae(P:ak):nsIn (HK P) mainGlobals (aa "_law_names")=some (some (.ref 275)):=by kernel_rfl
theorem Af(P:ak):nsIn (HK P) mainGlobals (aa "_law_subs")=some (some (.ref 282)):=by kernel_rfl
theorem Ag(P:ak):nsIn (HK P) mainGlobals (aa "_law_marks")=some (some (.ref 289)):=by kernel_rfl
theorem Ah(P:ak):nsIn (HK P) mainGlobals (aa "_law_number")=some (some (.ref 306)):=by kernel_rfl
theorem Ai(P:ak):nsIn (HK P) mainGlobals (aa "_law_name")=some (some (.ref 318)):=by kernel_rfl
theorem Aj(P:ak):nsIn (HK P) mainGlobals (aa "_law_read")=some (some (.ref 323)):=by kernel_rfl
theorem Ak(P:ak):nsIn (HK P) mainGlobals (aa "_law_varies")=some (some (.ref 328)):=by kernel_rfl
theorem Al(P:ak):nsIn (HK P) mainGlobals (aa "_law_valid")=some (some (.ref 333)):=by kernel_rfl
theorem Am(P:ak):nsIn (HK P) mainGlobals (aa "_law_told")=some (some (.ref 340)):=by kernel_rfl
theorem An(P:ak):nsIn (HK P) mainGlobals (aa "_law_agrees")=some (some (.ref 345)):=by kernel_rfl
theorem Ao(P:ak):nsIn (HK P) mainGlobals (aa "_law_parts")=some (some (.ref 313)):=by kernel_rfl
theorem Ap(P:ak):nsIn (HK P) mainGlobals (aa "_law_take")=some (some (.ref 296)):=by kernel_rfl
theorem JX(Z:bb w h mg mb)(hC:bu (wd w h mg mb) n C):bo (wd w h mg mb) (n+2) (aa "_parse_digits") (aN C false (ag 6)):=
 have D:=yY (W:=wd w h mg mb) (P:=w.params) Z.O.kin rfl
 ⟨.ref 47,bG (K:=HK w.params) Z.O.kin Z.O.g (z8 w.params),bS D,λargs=>(cA Z.O D (yX w.params).scope (dj Z hC) args).k⟩
theorem JY(Z:bb w h mg mb)(hC:bu (wd w h mg mb) n C):bo (wd w h mg mb) (n+2) (aa "_parse_arrlist") (aN C false (ag 7)):=
 have D:=y0 (W:=wd w h mg mb) (P:=w.params) Z.O.kin rfl
 ⟨.ref 54,bG (K:=HK w.params) Z.O.kin Z.O.g (z9 w.params),bS D,λargs=>(cA Z.O D (yZ w.params).scope (dj Z hC) args).k⟩
theorem JZ(Z:bb w h mg mb)(hC:bu (wd w h mg mb) n C):bo (wd w h mg mb) (n+2) (aa "_parse_sub") (aN C false (ag 8)):=
 have D:=y4 (W:=wd w h mg mb) (P:=w.params) Z.O.kin rfl
 ⟨.ref 61,bG (K:=HK w.params) Z.O.kin Z.O.g (Aa w.params),bS D,λargs=>(cA Z.O D (y3 w.params).scope (dj Z hC) args).k⟩
theorem J1(Z:bb w h mg mb)(hC:bu (wd w h mg mb) n C):bo (wd w h mg mb) (n+2) (aa "_parse_tuple_type") (aN C false (ag 9)):=
 have D:=y6 (W:=wd w h mg mb) (P:=w.params) Z.O.kin rfl
 ⟨.ref 68,bG (K:=HK w.params) Z.O.kin Z.O.g (Ab w.params),bS D,λargs=>(cA Z.O D (y5 w.params).scope (dj Z hC) args).k⟩
theorem J2(Z:bb w h mg mb)(hC:bu (wd w h mg mb) n C):bo (wd w h mg mb) (n+2) (aa "_parse_type") (aN C false (ag 10)):=
 have D:=y8 (W:=wd w h mg mb) (P:=w.params) Z.O.kin rfl
 ⟨.ref 75,bG (K:=HK w.params) Z.O.kin Z.O.g (Ac w.params),bS D,λargs=>(cA Z.O D (y7 w.params).scope (dj Z hC) args).k⟩
theorem J3(Z:bb w h mg mb)(hC:bu (wd w h mg mb) n C):bo (wd w h mg mb) (n+2) (aa "parse") (aN C false (ag 11)):=
 have D:=za (W:=wd w h mg mb) (P:=w.params) Z.O.kin rfl
 ⟨.ref 82,bG (K:=HK w.params) Z.O.kin Z.O.g (Ad w.params),bS D,λargs=>(cA Z.O D (y9 w.params).scope (dj Z hC) args).k⟩
theorem Aq(Z:bb w h mg mb)(hC:bu (wd w h mg mb) n C):bo (wd w h mg mb) (n+2) (aa "_law_names") (aN C false (ag 16)):=
 have D:=zB (W:=wd w h mg mb) (P:=w.params) Z.O.kin rfl
 ⟨.ref 275,bG (K:=HK w.params) Z.O.kin Z.O.g (Ae w.params),bS D,λargs=>(cA Z.O D (zA w.params).scope (dj Z hC) args).k⟩
theorem Ar(Z:bb w h mg mb)(hC:bu (wd w h mg mb) n C):bo (wd w h mg mb) (n+2) (aa "_law_subs") (aN C false (ag 17)):=
 have D:=zE (W:=wd w h mg mb) (P:=w.params) Z.O.kin rfl
 ⟨.ref 282,bG (K:=HK w.params) Z.O.kin Z.O.g (Af w.params),bS D,λargs=>(cA Z.O D (zD w.params).scope (dj Z hC) args).k⟩
theorem J4(Z:bb w h mg mb)(hC:bu (wd w h mg mb) n C):bo (wd w h mg mb) (n+2) (aa "_law_marks") (aN C false (ag 18)):=
 have D:=zG (W:=wd w h mg mb) (P:=w.params) Z.O.kin rfl
 ⟨.ref 289,bG (K:=HK w.params) Z.O.kin Z.O.g (Ag w.params),bS D,λargs=>(cA Z.O D (zF w.params).scope (dj Z hC) args).k⟩
theorem J5(Z:bb w h mg mb)(hC:bu (wd w h mg mb) n C):bo (wd w h mg mb) (n+2) (aa "_law_number") (aN C false (ag 21)):=
 have D:=zI (W:=wd w h mg mb) (P:=w.params) Z.O.kin rfl
 ⟨.ref 306,bG (K:=HK w.params) Z.O.kin Z.O.g (Ah w.params),bS D,λargs=>(cA Z.O D (zH w.params).scope (dj Z hC) args).k⟩
theorem J6(Z:bb w h mg mb)(hC:bu (wd w h mg mb) n C):bo (wd w h mg mb) (n+2) (aa "_law_name") (aN C false (ag 23)):=
 have D:=zL (W:=wd w h mg mb) (P:=w.params) Z.O.kin rfl
 ⟨.ref 318,bG (K:=HK w.params) Z.O.kin Z.O.g (Ai w.params),bS D,λargs=>(cA Z.O D (zK w.params).scope (dj Z hC) args).k⟩
theorem J7(Z:bb w h mg mb)(hC:bu (wd w h mg mb) n C):bo (wd w h mg mb) (n+2) (aa "_law_read") (aN C false (ag 24)):=
 have D:=zN (W:=wd w h mg mb) (P:=w.params) Z.O.kin rfl
 ⟨.ref 323,bG (K:=HK w.params) Z.O.kin Z.O.g (Aj w.params),bS D,λargs=>(cA Z.O D (zM w.params).scope (dj Z hC) args).k⟩
theorem J8(Z:bb w h mg mb)(hC:bu (wd w h mg mb) n C):bo (wd w h mg mb) (n+2) (aa "_law_varies") (aN C false (ag 25)):=
 have D:=zP (W:=wd w h mg mb) (P:=w.params) Z.O.kin rfl
 ⟨.ref 328,bG (K:=HK w.params) Z.O.kin Z.O.g (Ak w.params),bS D,λargs=>(cA Z.O D (zO w.params).scope (dj Z hC) args).k⟩
theorem J9(Z:bb w h mg mb)(hC:bu (wd w h mg mb) n C):bo (wd w h mg mb) (n+2) (aa "_law_valid") (aN C false (ag 26)):=
 have D:=zR (W:=wd w h mg mb) (P:=w.params) Z.O.kin rfl
 ⟨.ref 333,bG (K:=HK w.params) Z.O.kin Z.O.g (Al w.params),bS D,λargs=>(cA Z.O D (zQ w.params).scope (dj Z hC) args).k⟩
theorem J'(Z:bb w h mg mb)(hC:bu (wd w h mg mb) n C):bo (wd w h mg mb) (n+2) (aa "_law_told") (aN C false (ag 27)):=
 have D:=zT (W:=wd w h mg mb) (P:=w.params) Z.O.kin rfl
 ⟨.ref 340,bG (K:=HK w.params) Z.O.kin Z.O.g (Am w.params),bS D,λargs=>(cA Z.O D (zS w.params).scope (dj Z hC) args).k⟩
theorem Ka(Z:bb w h mg mb)(hC:bu (wd w h mg mb) n C):bo (wd w h mg mb) (n+2) (aa "_law_agrees") (aN C false (ag 28)):=
 have D:=zV (W:=wd w h mg mb) (P:=w.params) Z.O.kin rfl
 ⟨.ref 345,bG (K:=HK w.params) Z.O.kin Z.O.g (An w.params),bS D,λargs=>(cA Z.O D (zU w.params).scope (dj Z hC) args).k⟩
theorem Kb(Z:bb w h mg mb):bo (wd w h mg mb) n (aa "_parse_digits") (λø=> .stuck):=
 ⟨.ref 47,bG (K:=HK w.params) Z.O.kin Z.O.g (z8 w.params),bS (yY (W:=wd w h mg mb) (P:=w.params) Z.O.kin rfl),λargs=>cq⟩
theorem Kc(Z:bb w h mg mb):bo (wd w h mg mb) n (aa "_parse_arrlist") (λø=> .stuck):=
 ⟨.ref 54,bG (K:=HK w.params) Z.O.kin Z.O.g (z9 w.params),bS (y0 (W:=wd w h mg mb) (P:=w.params) Z.O.kin rfl),λargs=>cq⟩
theorem Kd(Z:bb w h mg mb):bo (wd w h mg mb) n (aa "_parse_sub") (λø=> .stuck):=
 ⟨.ref 61,bG (K:=HK w.params) Z.O.kin Z.O.g (Aa w.params),bS (y4 (W:=wd w h mg mb) (P:=w.params) Z.O.kin rfl),λargs=>cq⟩
theorem Ke(Z:bb w h mg mb):bo (wd w h mg mb) n (aa "_parse_tuple_type") (λø=> .stuck):=
 ⟨.ref 68,bG (K:=HK w.params) Z.O.kin Z.O.g (Ab w.params),bS (y6 (W:=wd w h mg mb) (P:=w.params) Z.O.kin rfl),λargs=>cq⟩
theorem Kf(Z:bb w h mg mb):bo (wd w h mg mb) n (aa "_parse_type") (λø=> .stuck):=
 ⟨.ref 75,bG (K:=HK w.params) Z.O.kin Z.O.g (Ac w.params),bS (y8 (W:=wd w h mg mb) (P:=w.params) Z.O.kin rfl),λargs=>cq⟩
theorem Kg(Z:bb w h mg mb):bo (wd w h mg mb) n (aa "parse") (λø=> .stuck):=
 ⟨.ref 82,bG (K:=HK w.params) Z.O.kin Z.O.g (Ad w.params),bS (za (W:=wd w h mg mb) (P:=w.params) Z.O.kin rfl),λargs=>cq⟩
theorem Kh(Z:bb w h mg mb):bo (wd w h mg mb) n (aa "_law_names") (λø=> .stuck):=
 ⟨.ref 275,bG (K:=HK w.params) Z.O.kin Z.O.g (Ae w.params),bS (zB (W:=wd w h mg mb) (P:=w.params) Z.O.kin rfl),λargs=>cq⟩
theorem Ki(Z:bb w h mg mb):bo (wd w h mg mb) n (aa "_law_subs") (λø=> .stuck):=
 ⟨.ref 282,bG (K:=HK w.params) Z.O.kin Z.O.g (Af w.params),bS (zE (W:=wd w h mg mb) (P:=w.params) Z.O.kin rfl),λargs=>cq⟩
theorem Kj(Z:bb w h mg mb):bo (wd w h mg mb) n (aa "_law_marks") (λø=> .stuck):=
 ⟨.ref 289,bG (K:=HK w.params) Z.O.kin Z.O.g (Ag w.params),bS (zG (W:=wd w h mg mb) (P:=w.params) Z.O.kin rfl),λargs=>cq⟩
theorem Kk(Z:bb w h mg mb):bo (wd w h mg mb) n (aa "_law_number") (λø=> .stuck):=
 ⟨.ref 306,bG (K:=HK w.params) Z.O.kin Z.O.g (Ah w.params),bS (zI (W:=wd w h mg mb) (P:=w.params) Z.O.kin rfl),λargs=>cq⟩
theorem Kl(Z:bb w h mg mb):bo (wd w h mg mb) n (aa "_law_name") (λø=> .stuck):=
 ⟨.ref 318,bG (K:=HK w.params) Z.O.kin Z.O.g (Ai w.params),bS (zL (W:=wd w h mg mb) (P:=w.params) Z.O.kin rfl),λargs=>cq⟩
theorem Km(Z:bb w h mg mb):bo (wd w h mg mb) n (aa "_law_read") (λø=> .stuck):=
 ⟨.ref 323,bG (K:=HK w.params) Z.O.kin Z.O.g (Aj w.params),bS (zN (W:=wd w h mg mb) (P:=w.params) Z.O.kin rfl),λargs=>cq⟩
theorem Kn(Z:bb w h mg mb):bo (wd w h mg mb) n (aa "_law_varies") (λø=> .stuck):=
 ⟨.ref 328,bG (K:=HK w.params) Z.O.kin Z.O.g (Ak w.params),bS (zP (W:=wd w h mg mb) (P:=w.params) Z.O.kin rfl),λargs=>cq⟩
theorem Ko(Z:bb w h mg mb):bo (wd w h mg mb) n (aa "_law_valid") (λø=> .stuck):=
 ⟨.ref 333,bG (K:=HK w.params) Z.O.kin Z.O.g (Al w.params),bS (zR (W:=wd w h mg mb) (P:=w.params) Z.O.kin rfl),λargs=>cq⟩
theorem Kp(Z:bb w h mg mb):bo (wd w h mg mb) n (aa "_law_told") (λø=> .stuck):=
 ⟨.ref 340,bG (K:=HK w.params) Z.O.kin Z.O.g (Am w.params),bS (zT (W:=wd w h mg mb) (P:=w.params) Z.O.kin rfl),λargs=>cq⟩
theorem Kq(Z:bb w h mg mb):bo (wd w h mg mb) n (aa "_law_agrees") (λø=> .stuck):=
 ⟨.ref 345,bG (K:=HK w.params) Z.O.kin Z.O.g (An w.params),bS (zV (W:=wd w h mg mb) (P:=w.params) Z.O.kin rfl),λargs=>cq⟩
theorem Kr(Z:bb w h mg mb):bo (wd w h mg mb) n (aa "_law_parts") (λø=> .stuck):=
 ⟨.ref 313,bG (K:=HK w.params) Z.O.kin Z.O.g (Ao w.params),bS (zJ (W:=wd w h mg mb) (P:=w.params) Z.O.kin rfl),λargs=>cq⟩
theorem As(P:ak):nsIn (HK P) mainGlobals (aa "_law_tree")=some (some (.ref 301)):=by kernel_rfl
theorem Ks(P:ak):fnIn (HK P) 301=true:=by kernel_rfl
theorem Au(Z:bb w h mg mb):bo (wd w h mg mb) n (aa "_law_tree") (λø=> .stuck):=by
 refine ay (ub (K:=HK w.params) (h:=(wd w h mg mb).base) Z.O.kin (Ks w.params)) λo e1 e2=> ?_
 exact⟨.ref 301,bG (K:=HK w.params) Z.O.kin Z.O.g (As w.params),uf ⟨o,e1,_,e2⟩,λø=>cq⟩
theorem Av(Z:bb w h mg mb):bo (wd w h mg mb) n (aa "_law_take") (λø=> .stuck):=
 ⟨.ref 296,bG (K:=HK w.params) Z.O.kin Z.O.g (Ap w.params),bS (ue (W:=wd w h mg mb) (P:=w.params) Z.O.kin rfl),λø=>cq⟩
theorem Kt(P:ak):keepIn (HK P) (.ref 214)=true:=by kernel_rfl
theorem Ku(P:ak):keepIn (HK P) (.ref 266)=true:=by kernel_rfl
theorem ug(Z:bb w h mg mb):bo (wd w h mg mb) n (aa "TupleType") (g9 (aa "TupleType")):=
 ⟨.ref 214,Z.O.tupN,z7 Z.O (Kt w.params),λargs=>by
  unfold g9
  rw[if_pos rfl]
  split
  ·rename_i hl
   exact yL Z.O (JR Z.O) args hl
  ·exact cq⟩
theorem uh(Z:bb w h mg mb):bo (wd w h mg mb) n (aa "BasicType") (g9 (aa "BasicType")):=
 ⟨.ref 266,Z.O.basN,z7 Z.O (Ku w.params),λargs=>by
  unfold g9
  rw[if_neg (by decide+kernel),if_pos rfl]
  split
  ·rename_i hl
   exact yL Z.O (JU Z.O) args hl
  ·exact cq⟩
theorem Kv:aS (ag 22)=tX:=by kernel_rfl
theorem Kw:au (ag 22)=[aa "text"]:=by kernel_rfl
theorem Kx(P:ak):(az (HK P) 313).scope.names.lookup (aa "found")=some .local:=by kernel_rfl
theorem Ky(P:ak):(az (HK P) 313).scope.names.lookup (aa "depth")=some .local:=by kernel_rfl
theorem Kz(P:ak):(az (HK P) 313).scope.names.lookup (aa "sign")=some .local:=by kernel_rfl
set_option tactic.hygienic true in
theorem KA(Z:bb w h mg mb):bo (wd w h mg mb) (n+1) (aa "_law_parts") (λargs=>match args with
   |[.str x]=>if x.length<=aX then .ok (.list ((cz x).map .str))else .stuck
   |_=> .stuck):=by
 have D:=zJ (W:=wd w h mg mb) (P:=w.params) Z.O.kin rfl
 refine⟨.ref 313,bG (K:=HK w.params) Z.O.kin Z.O.g (Ao w.params),bS D,λargs=> ?_⟩
 rw[Kw,Kv]at D
 dsimp only
 split
 ·rename_i x
  split
  ·rename_i hx
   exact HP Z.O D (Kx _) (Ky _) (Kz _) x hx
  ·exact cq
 ·exact cq
theorem bo.mono{f:Str}{r:List PV->Res PV}{m:Nat}(k:bo (wd w h mg mb) n f r)(hn:n<=m):bo (wd w h mg mb) m f r:=let ⟨fv,a,b,c⟩:=k;⟨fv,a,b,λargs=>(c args).mono hn⟩
theorem bo.eqv{f:Str}{r r':List PV->Res PV}(k:bo (wd w h mg mb) n f r)(e:∀a,r a=r' a):bo (wd w h mg mb) n f r':=let ⟨fv,a,b,c⟩:=k;⟨fv,a,b,λargs=>e args▸c args⟩
end
end
section
section
variable{w:fb}{h:Heap}{mg mb:Str->Option ae}{n:Nat}{C:Calls}
theorem m1(P:ak):findIn (HK P) (.ref 214) (aa "to_type_str")=some (some (.ref 188)):=by kernel_rfl
theorem m2(P:ak):findIn (HK P) (.ref 266) (aa "to_type_str")=some (some (.ref 240)):=by kernel_rfl
theorem m3(P:ak):findIn (HK P) (.ref 214) (aa "validate")=some (some (.ref 203)):=by kernel_rfl
theorem m4(P:ak):findIn (HK P) (.ref 266) (aa "validate")=some (some (.ref 263)):=by kernel_rfl
theorem m5(P:ak)(c:aY):findIn (HK P) (.ref (dT c)) (aa "invalidate")=some (some (.ref 133)):=by cases c<;>kernel_rfl
theorem m6(P:ak)(c:aY):findIn (HK P) (.ref (dT c)) (aa "__eq__")=some (some (.ref 104)):=by cases c<;>kernel_rfl
theorem t1(P:ak):typeIn (HK P) (.ref 188)=some (.type "function"):=by kernel_rfl
theorem t2(P:ak):typeIn (HK P) (.ref 240)=some (.type "function"):=by kernel_rfl
theorem t3(P:ak):typeIn (HK P) (.ref 203)=some (.type "function"):=by kernel_rfl
theorem t4(P:ak):typeIn (HK P) (.ref 263)=some (.type "function"):=by kernel_rfl
theorem t5(P:ak):typeIn (HK P) (.ref 133)=some (.type "function"):=by kernel_rfl
theorem t6(P:ak):typeIn (HK P) (.ref 104)=some (.type "function"):=by kernel_rfl
theorem nf(P:ak)(c d:aY):notFirst (HK P) (dT c) (.ref (dT d))=true:=by cases c<;>cases d<;>kernel_rfl
noncomputable def lT(W:Wd)(n:Nat)(c:aY)(m:Str)(r:List PV->Res PV):Prop:=∃fv,(∀(A:aA) (E:ae->ah->Prop) (s:ah) (x d:Addr) (es:List eO) (k:Nat) (pl:Sem Bool) (P:ae×List ae->ah->Prop),Inv W s->
   s.heap.get? x=some (instObj (W.clsA c) d)->s.heap.get? d=some (dictOf es k)->shadowIn (some (dictOf es k)) m=some false->P (fv,[.ref x]) s->wpAny W.M A (getMethod (.ref x) m pl) P E s)/\ b7 W fv/\ ∀args,f8 W n fv args (r args)
theorem iA(Z:bb w h mg mb){c:aY}{m:Str}{f:Addr}{r:List PV->Res PV}{g:Bool}{fd:dv}{body:List aC}{params:List Str}(hf:findIn (HK w.params) (.ref (dT c)) m=some (some (.ref f)))(ht:typeIn (HK w.params) (.ref f)=some (.type "function"))
  (D:bw g (wd w h mg mb) f fd body params) (hk:∀args,f8 (wd w h mg mb) n (.ref f) args (r args)):lT (wd w h mg mb) n c m r:=⟨.ref f,Hs Z.O hf ht,bS D,hk⟩
theorem KB(Z:bb w h mg mb)(hC:bu (wd w h mg mb) n C):∀c m,g8.contains m=true->lT (wd w h mg mb) (n+7) c m (i6 C c m):=λc m hm=>by
 have hm:m=aa "to_type_str" \/m=aa "validate" \/m=aa "invalidate" :=by
  have:=rH.mp hm
  simpa[g8] using this
 have X:(HK w.params).In (wd w h mg mb).base:=Z.O.kin
 rcases hm with rfl|rfl|rfl
 ·cases c with
  |tup=>
   have D:=zi (W:=wd w h mg mb) (P:=w.params) X rfl
   exact iA Z (m1 _) (t1 _) D λargs=>((cA Z.O D (zh w.params).scope (pQ Z hC) args).k).mono (bk (n+6) 1)
  |bas=>
   have D:=zu (W:=wd w h mg mb) (P:=w.params) X rfl
   exact iA Z (m2 _) (t2 _) D λargs=>((cA Z.O D (zt w.params).scope (pQ Z hC) args).k).mono (bk (n+6) 1)
 ·cases c with
  |tup=>
   have D:=zn (W:=wd w h mg mb) (P:=w.params) X rfl
   exact iA Z (m3 _) (t3 _) D λargs=>((cA Z.O D (zk w.params).scope (dj Z hC) args).k).mono (bk (n+2) 5)
  |bas=>
   have D:=zy (W:=wd w h mg mb) (P:=w.params) X rfl
   exact iA Z (m4 _) (t4 _) D λargs=>((cA Z.O D (zx w.params).scope (dj Z hC) args).k).mono (bk (n+2) 5)
 ·have D:=ze (W:=wd w h mg mb) (P:=w.params) X rfl
  exact iA Z (m5 _ c) (t5 _) D λargs=>((cA Z.O D (zd w.params).scope (dj Z hC) args).k).mono (bk (n+2) 5)
theorem KC{r:Res PV}:∀v,pL r= .ok v->∃b,v= .bool b:=λv e=>by
 cases r with
 |ok p=>cases p<;>first|(cases e;exact⟨_,rfl⟩)|cases e
 |exc c=>exact ju e
 |stuck=>exact iq e
theorem KD{W:Wd}{fv:ae}{args:List PV}{r:Res PV}(k:gb W n fv args r):gb W n fv args (pL r):=by
 cases r with
 |ok p=>cases p<;>first|exact k|exact pO
 |exc c=>exact k
 |stuck=>exact pO
theorem KE(Z:bb w h mg mb)(hC:bu (wd w h mg mb) n C)(args:List PV):gb (wd w h mg mb) (n+2) (.ref 104) args (i5 C args):=by
 unfold i5
 split
 ·rename_i hl
  have:=tP Z.O (Ik (W:=wd w h mg mb) (P:=w.params) Z.O.kin rfl) (HB (iy Z.O hC 24)) args hl
  rw[(zc w.params).scope]at this
  exact KD this
 ·exact pO
theorem KF(args:List PV):∀v,i5 C args= .ok v->∃b,v= .bool b:=λv e=>by
 unfold i5 at e
 split at e
 ·exact KC v e
 ·exact iq e
theorem p1(P:ak)(c:aY):findIn (HK P) (.ref (dT c)) (aa "is_array")=some (some (.ref 141)):=by cases c<;>kernel_rfl
theorem p2(P:ak)(c:aY):findIn (HK P) (.ref (dT c)) (aa "_has_dynamic_arrlist")=some (some (.ref 157)):=by cases c<;>kernel_rfl
theorem p3(P:ak):findIn (HK P) (.ref 214) (aa "item_type")=some (some (.ref 196)):=by kernel_rfl
theorem p4(P:ak):findIn (HK P) (.ref 266) (aa "item_type")=some (some (.ref 248)):=by kernel_rfl
theorem p5(P:ak):findIn (HK P) (.ref 214) (aa "is_dynamic")=some (some (.ref 211)):=by kernel_rfl
theorem p6(P:ak):findIn (HK P) (.ref 266) (aa "is_dynamic")=some (some (.ref 256)):=by kernel_rfl
theorem KG(P:ak):∀q∈([(141,140),(157,156),(196,195),(248,247),(211,210),(256,255)]:List (Addr×Addr)),specialIn (HK P) (.ref q.1) "__get__" =some (some (.builtin "property.__get__"))/\ takesIn (HK P) (.ref q.1)=some true/\ ∃rest,recIn (HK P) q.1 "property" =some (.ref q.2::rest):=λq hq=>by
 have key:([(141,140),(157,156),(196,195),(248,247),(211,210),(256,255)]:List (Addr×Addr)).all (λq=>specialIn (HK P) (.ref q.1) "__get__" ==some (some (.builtin "property.__get__"))&&takesIn (HK P) (.ref q.1)==some true&&((recIn (HK P) q.1 "property").bind List.head? ==some (.ref q.2)))=true:=by kernel_rfl
 have:=ba.mp key q hq
 simp only[aI,beq_iff_eq]at this
 refine⟨this.1.1,this.1.2,?_⟩
 cases e:recIn (HK P) q.1 "property" with
 |none=>rw[e]at this;cases this.2
 |some l=>
  rw[e]at this
  cases l with
  |nil=>cases this.2
  |cons a r=>have:=this.2;obtain rfl:=aq this;exact⟨r,rfl⟩
theorem lU(Z:bb w h mg mb){c:aY}{a:Str}{p f:Addr}{fs:List (Str×PV)}{r:Res PV}(hq:(p,f)∈([(141,140),(157,156),(196,195),(248,247),(211,210),(256,255)]:List (Addr×Addr)))(ha:findIn (HK w.params) (.ref (dT c)) a=some (some (.ref p)))(hK:gb (wd w h mg mb) n (.ref f) [.inst c fs] r)
  (A:aA) (l:List av) (s:ah) (X:Addr->Prop) (va:ae) (R:Ready (wd w h mg mb) X A l s) (ra:Rep (wd w h mg mb) X s.heap va (.inst c fs)):SC (wd w h mg mb) X l (RV (wd w h mg mb) X) (n+1) A (getAttr va a true) s r:=by
 refine rK (KG w.params (p,f) hq) λh1 h2 rest h3=> ?_
 exact Hu (W:=wd w h mg mb) Z.O (Jf w.params) ha h1 h2 h3 hK R ra
theorem ui{γ β:Type}{W:Wd}{X:Addr->Prop}{l:List av}{R:Heap->γ->β->Prop}{A:aA}{t:Sem γ}{s:ah}:SC W X l R n A t s (.stuck:Res β):=λhne=>absurd rfl hne
theorem KH(Z:bb w h mg mb)(hC:bu (wd w h mg mb) n C)(c:aY)(a:Str)(fs:List (Str×PV))(A:aA)(l:List av)(s:ah)(X:Addr->Prop)(va:ae)(R:Ready (wd w h mg mb) X A l s)(ra:Rep (wd w h mg mb) X s.heap va (.inst c fs)):
  SC (wd w h mg mb) X l (RV (wd w h mg mb) X) (n+7) A (getAttr va a true) s (jK C c a (.inst c fs)):=by
 have X':(HK w.params).In (wd w h mg mb).base:=Z.O.kin
 unfold jK
 split
 ·rename_i e;subst e
  refine SC.mono (n:=n+2+1) ?_ (bk (n+3) 4)
  exact lU (n:=n+2) Z (by decide) (p1 w.params c) (cA (N:=n) Z.O (Io (W:=wd w h mg mb) (P:=w.params) X' rfl) (zf w.params).scope (dj Z hC) _) A l s X va R ra
 ·split
  ·rename_i e;subst e
   exact(lU (n:=n+4+2) Z (by decide) (p2 _ c) (cA (N:=n+4) Z.O (Iu (W:=wd w h mg mb) (P:=w.params) X' rfl) (zg w.params).scope (pQ Z hC) _) A l s X va R ra).mono (bO (n+7))
  ·split
   ·rename_i e;subst e
    cases c with
    |tup=>
     exact(lU (n:=n+2) Z (by decide) (p3 _) (cA Z.O (IG (W:=wd w h mg mb) (P:=w.params) X' rfl) (zj w.params).scope (dj Z hC) _) A l s X va R ra).mono (bk (n+3) 4)
    |bas=>
     exact(lU (n:=n+2) Z (by decide) (p4 _) (cA Z.O (IV (W:=wd w h mg mb) (P:=w.params) X' rfl) (zv w.params).scope (dj Z hC) _) A l s X va R ra).mono (bk (n+3) 4)
   ·split
    ·rename_i e;subst e
     cases c with
     |tup=>
      exact(lU (n:=n+4+2) Z (by decide) (p5 _) (cA Z.O (IL (W:=wd w h mg mb) (P:=w.params) X' rfl) (zo w.params).scope (pQ Z hC) _) A l s X va R ra).mono (bO (n+7))
     |bas=>
      exact(lU (n:=n+2) Z (by decide) (p6 _) (cA Z.O (IX (W:=wd w h mg mb) (P:=w.params) X' rfl) (zw w.params).scope (dj Z hC) _) A l s X va R ra).mono (bk (n+3) 4)
    ·exact ui
theorem g1(P:ak):(match nsIn (HK P) mainGlobals (aa "_LETTERS")with|some (some (.str y _))=>an y==jL|_=>false)=true:=by kernel_rfl
theorem g2(P:ak):(match nsIn (HK P) mainGlobals (aa "_DIGITS")with|some (some (.str y _))=>an y==gr|_=>false)=true:=by kernel_rfl
set_option tactic.hygienic true in
theorem KJ(Z:bb w h mg mb):∀x v,lS x=some v->∃y t,(wd w h mg mb).mg x=some (.str y t)/\ v= .str (an y):=λx v e=>by
 have key:∀x l,(match nsIn (HK w.params) mainGlobals x with|some (some (.str y _))=>an y==l|_=>false)=true->∃y t,mg x=some (.str y t)/\ PV.str l= .str (an y):=λx l hk=>by
  split at hk
  ·rename_i y t hn
   exact⟨y,t,bG (K:=HK w.params) Z.O.kin Z.O.g hn,by rw[beq_iff_eq.mp hk]⟩
  ·exact bV hk
 unfold lS at e
 split at e
 ·rename_i q;subst q;obtain rfl:=aq e;exact key _ _ (g1 w.params)
 ·split at e
  ·rename_i q;subst q;obtain rfl:=aq e;exact key _ _ (g2 w.params)
  ·exact al e
theorem Aw{f:Str}(hf:jw.contains f=true):f∈jw:=rH.mp hf
noncomputable def lV(W:Wd)(n:Nat)(r:Str->List PV->Res PV):Prop:=∀f,jw.contains f=true->bo W n f (r f)
theorem bo.stuck{W:Wd}{n m:Nat}{f:Str}{r:List PV->Res PV}(k:bo W n f r):bo W m f (λø=> .stuck):=let ⟨fv,a,b,_⟩:=k;⟨fv,a,b,λø=>cq⟩
theorem lV.stuck{W:Wd}{n m:Nat}{r:Str->List PV->Res PV}(k:lV W n r):lV W m (λø ø=> .stuck):=λf hf=>(k f hf).stuck
theorem lT.stuck{W:Wd}{n m:Nat}{c:aY}{x:Str}{r:List PV->Res PV}(k:lT W n c x r):lT W m c x (λø=> .stuck):=let ⟨fv,a,b,_⟩:=k;⟨fv,a,b,λø=>cq⟩
theorem KL{f:Str}(h1:f≠aa "TupleType") (h2:f≠aa "BasicType") (args:List PV):g9 f args= .stuck:=by
 unfold g9;rw[if_neg h1,if_neg h2]
theorem KM(Z:bb w h mg mb)(hC:bu (wd w h mg mb) n C):lV (wd w h mg mb) (n+2) (i7 C):=λf hf=>by
 have hf:=Aw hf
 simp only[jw,fe,rm,bR,eQ,or_false]at hf
 rcases hf with rfl|rfl|rfl|rfl|rfl|rfl|rfl|rfl|rfl|rfl|rfl|rfl|rfl|rfl|rfl|rfl|rfl|rfl|rfl|rfl|rfl
 ·exact(JX Z hC).eqv λa=>rfl
 ·exact(JY Z hC).eqv λa=>rfl
 ·exact(JZ Z hC).eqv λa=>rfl
 ·exact(J1 Z hC).eqv λa=>rfl
 ·exact(J2 Z hC).eqv λa=>rfl
 ·exact(J3 Z hC).eqv λa=>rfl
 ·exact(ug Z).eqv λa=>rfl
 ·exact(uh Z).eqv λa=>rfl
 ·exact(Aq Z hC).eqv λa=>rfl
 ·exact(Ar Z hC).eqv λa=>rfl
 ·exact(J4 Z hC).eqv λa=>rfl
 ·exact(Av Z).eqv λa=>rfl
 ·exact(Au Z).eqv λa=>rfl
 ·exact(J5 Z hC).eqv λa=>rfl
 ·exact((KA (n:=n) Z).mono (CK (j7 _))).eqv λa=>rfl
 ·exact(J6 Z hC).eqv λa=>rfl
 ·exact(J7 Z hC).eqv λa=>rfl
 ·exact(J8 Z hC).eqv λa=>rfl
 ·exact(J9 Z hC).eqv λa=>rfl
 ·exact(J' Z hC).eqv λa=>rfl
 ·exact(Ka Z hC).eqv λa=>rfl
theorem Ax(Z:bb w h mg mb):lV (wd w h mg mb) n (λø ø=> .stuck):=λf hf=>by
 have hf:=Aw hf
 simp only[jw,fe,rm,bR,eQ,or_false]at hf
 rcases hf with rfl|rfl|rfl|rfl|rfl|rfl|rfl|rfl|rfl|rfl|rfl|rfl|rfl|rfl|rfl|rfl|rfl|rfl|rfl|rfl|rfl
 ·exact Kb Z
 ·exact Kc Z
 ·exact Kd Z
 ·exact Ke Z
 ·exact Kf Z
 ·exact Kg Z
 ·exact(ug (n:=n) Z).stuck
 ·exact(uh (n:=n) Z).stuck
 ·exact Kh Z
 ·exact Ki Z
 ·exact Kj Z
 ·exact Av Z
 ·exact Au Z
 ·exact Kk Z
 ·exact Kr Z
 ·exact Kl Z
 ·exact Km Z
 ·exact Kn Z
 ·exact Ko Z
 ·exact Kp Z
 ·exact Kq Z
theorem KN(Z:bb w h mg mb):∀c m,g8.contains m=true->lT (wd w h mg mb) n c m (λø=> .stuck):=λc m hm=>by
 have hm:m=aa "to_type_str" \/m=aa "validate" \/m=aa "invalidate" :=by
  have:=rH.mp hm
  simpa[g8] using this
 have X:(HK w.params).In (wd w h mg mb).base:=Z.O.kin
 rcases hm with rfl|rfl|rfl
 ·cases c with
  |tup=>exact iA Z (m1 _) (t1 _) (zi (W:=wd w h mg mb) (P:=w.params) X rfl) λargs=>cq
  |bas=>exact iA Z (m2 _) (t2 _) (zu (W:=wd w h mg mb) (P:=w.params) X rfl) λargs=>cq
 ·cases c with
  |tup=>exact iA Z (m3 _) (t3 _) (zn (W:=wd w h mg mb) (P:=w.params) X rfl) λargs=>cq
  |bas=>exact iA Z (m4 _) (t4 _) (zy (W:=wd w h mg mb) (P:=w.params) X rfl) λargs=>cq
 ·exact iA Z (m5 _ c) (t5 _) (ze (W:=wd w h mg mb) (P:=w.params) X rfl) λargs=>cq
theorem uj(Z:bb w h mg mb):bu (wd w h mg mb) n pM where
 fn:=Ax Z
 meth:=KN Z
 eq:=λc fs d gs A l s X va vb R ra rb=>ui
 prop:=λc a fs ø A l s X va R ra=>ui
 glob:=λx v e=>nomatch e
theorem KP(Z:bb w h mg mb):lV (wd w h mg mb) n g9:=λf hf=>by
 by_cases h1:f=aa "TupleType"
 ·subst h1;exact ug Z
 ·by_cases h2:f=aa "BasicType"
  ·subst h2;exact uh Z
  ·exact(Ax (n:=n) Z f hf).eqv λa=>(KL h1 h2 a).symm
theorem KQ(Z:bb w h mg mb)(hC:bu (wd w h mg mb) n C)(c:aY)(fs:List (Str×PV))(d:aY)(gs:List (Str×PV))(A:aA)(l:List av)(s:ah)(X:Addr->Prop)(va vb:ae)(R:Ready (wd w h mg mb) X A l s)(ra:Rep (wd w h mg mb) X s.heap va (.inst c fs))(rb:Rep (wd w h mg mb) X s.heap vb (.inst d gs)):
  SC (wd w h mg mb) X l (RV (wd w h mg mb) X) (n+7) A (compareOp .Eq va vb) s (i6 C c (aa "__eq__") [.inst c fs, .inst d gs]):=by
 have e:i6 C c (aa "__eq__") [.inst c fs, .inst d gs]=i5 C [.inst c fs, .inst d gs]:=rfl
 rw[e]
 exact(HC (W:=wd w h mg mb) (n:=n+2) Z.O (λc=>m6 w.params c) (t6 w.params) (λc d=>nf w.params c d) (KF _) (KE Z hC _) R ra rb).mono (bk (n+2) 5)
theorem uk(Z:bb w h mg mb):∀j,bu (wd w h mg mb) (7*j) (bh j)
 |0=>uj Z
 |j+1=>
  have hC:=uk Z j
  {fn:=KP Z
   meth:=KB Z hC
   eq:=KQ Z hC
   prop:=λc a fs ø=>KH Z hC c a fs
   glob:=KJ Z}
theorem Ay(Z:bb w h mg mb)(J:Nat):∀k,bu (wd w h mg mb) (7*J+2*k) (fw J k)
 |0=>uk Z J
 |k+1=>
  have hC:=Ay Z J k
  have hM:=(uk Z J).mono (m:=7*J+2*(k+1)) (bk _ _)
  {fn:=KM Z hC
   meth:=hM.meth
   eq:=hM.eq
   prop:=hM.prop
   glob:=hM.glob}
end
theorem pR(a:PV):cW (aa "len") [a]=o6 a:=by kernel_rfl
theorem KR(a:PV):cW (aa "int") [a]=sA a:=by kernel_rfl
theorem Az(a:PV):cW (aa "str") [a]=sB a:=by kernel_rfl
theorem KS(a:PV):cW (aa "repr") [a]=sC a:=by kernel_rfl
theorem KT(a:PV):cW (aa "tuple") [a]=sD [a]:=by kernel_rfl
theorem KU(a:PV):cW (aa "list") [a]=sE a:=by kernel_rfl
theorem KV(s:List Nat)(a:PV):ci (aa "endswith") s [a]=(gk a).map λx=> .bool (x.isSuffixOf s):=by kernel_rfl
theorem KW(s:List Nat)(a:PV):ci (aa "startswith") s [a]=(gk a).map λx=> .bool (x.isPrefixOf s):=by kernel_rfl
theorem KY(s:List Nat)(a:PV):ci (aa "split") s [a]=(gk a).bind (wW s):=by kernel_rfl
theorem KZ(s:List Nat)(a:PV):ci (aa "index") s [a]=(gk a).bind λx=>(iT x s 0).map λ(k:Nat)=>PV.int (k:Int):=by kernel_rfl
theorem AA(s:List Nat)(a:PV):ci (aa "join") s [a]=(ko a).bind (sF s):=by kernel_rfl
end
section
noncomputable def K1:List ax:=[⟨214,7,214,10⟩,⟨214,11,214,14⟩,⟨214,7,214,15⟩,⟨214,19,214,20⟩,⟨214,7,214,20⟩,⟨215,15,215,16⟩,⟨215,8,215,16⟩,⟨214,4,215,16⟩,⟨216,11,216,14⟩,⟨216,11,216,18⟩,⟨216,19,216,20⟩,⟨216,11,216,21⟩,⟨216,4,216,21⟩]
noncomputable def K5:List ax:=[⟨218,4,218,8⟩,⟨218,11,218,20⟩,⟨218,21,218,24⟩,⟨218,11,218,25⟩,⟨218,34,218,39⟩,⟨218,42,218,43⟩,⟨218,34,218,43⟩,⟨218,29,218,30⟩,⟨218,49,218,50⟩,⟨218,29,218,50⟩,⟨218,11,218,51⟩,⟨218,4,218,51⟩,⟨219,7,219,11⟩,⟨219,14,219,15⟩,⟨219,7,219,15⟩,⟨220,15,220,25⟩,⟨220,15,220,27⟩,⟨220,28,220,37⟩,⟨220,38,220,41⟩,⟨220,28,220,42⟩,⟨220,45,220,47⟩,⟨220,28,220,47⟩,⟨220,15,220,48⟩,⟨220,51,220,60⟩,⟨220,51,220,62⟩,⟨220,63,220,72⟩,⟨220,73,220,76⟩,⟨220,63,220,77⟩,⟨220,80,220,82⟩,⟨220,63,220,82⟩,⟨220,51,220,83⟩,⟨220,15,220,83⟩,⟨220,8,220,83⟩,⟨219,4,220,83⟩,⟨221,7,221,11⟩,⟨221,15,221,16⟩,⟨221,7,221,16⟩,⟨222,15,222,24⟩,⟨222,25,222,28⟩,⟨222,30,222,35⟩,⟨222,38,222,39⟩,⟨222,30,222,39⟩,⟨222,15,222,40⟩,⟨222,43,222,46⟩,⟨222,15,222,46⟩,⟨222,49,222,52⟩,⟨222,53,222,54⟩,⟨222,57,222,66⟩,⟨222,67,222,70⟩,⟨222,57,222,71⟩,⟨222,74,222,76⟩,⟨222,57,222,76⟩,⟨222,53,222,76⟩,⟨222,49,222,77⟩,⟨222,15,222,77⟩,⟨222,80,222,83⟩,⟨222,15,222,83⟩,⟨222,8,222,83⟩,⟨221,4,222,83⟩,⟨223,7,223,11⟩,⟨223,15,223,16⟩,⟨223,7,223,16⟩,⟨224,15,224,24⟩,⟨224,25,224,28⟩,⟨224,30,224,35⟩,⟨224,38,224,39⟩,⟨224,30,224,39⟩,⟨224,15,224,40⟩,⟨224,43,224,47⟩,⟨224,15,224,47⟩,⟨224,8,224,47⟩,⟨223,4,224,47⟩,⟨225,11,225,14⟩,⟨225,17,225,20⟩,⟨225,17,225,25⟩,⟨225,27,225,36⟩,⟨225,37,225,40⟩,⟨225,42,225,47⟩,⟨225,50,225,51⟩,⟨225,42,225,51⟩,⟨225,27,225,52⟩,⟨225,57,225,58⟩,⟨225,62,225,67⟩,⟨225,68,225,69⟩,⟨225,72,225,81⟩,⟨225,82,225,85⟩,⟨225,72,225,86⟩,⟨225,89,225,90⟩,⟨225,72,225,90⟩,⟨225,68,225,90⟩,⟨225,62,225,91⟩,⟨225,26,225,92⟩,⟨225,17,225,93⟩,⟨225,11,225,93⟩,⟨225,96,225,99⟩,⟨225,11,225,99⟩,⟨225,4,225,99⟩]
noncomputable def K6:List ax:=[⟨333,4,333,7⟩,⟨333,10,333,14⟩,⟨333,15,333,21⟩,⟨333,23,333,25⟩,⟨333,22,333,25⟩,⟨333,15,333,26⟩,⟨333,10,333,27⟩,⟨333,4,333,27⟩,⟨334,4,334,9⟩,⟨334,12,334,21⟩,⟨334,22,334,25⟩,⟨334,12,334,26⟩,⟨334,29,334,30⟩,⟨334,12,334,30⟩,⟨334,4,334,30⟩,⟨335,4,335,8⟩,⟨335,11,335,20⟩,⟨335,21,335,24⟩,⟨335,26,335,27⟩,⟨335,11,335,28⟩,⟨335,30,335,32⟩,⟨335,29,335,32⟩,⟨335,11,335,33⟩,⟨335,4,335,33⟩,⟨336,4,336,9⟩,⟨336,12,336,21⟩,⟨336,22,336,25⟩,⟨336,27,336,28⟩,⟨336,12,336,29⟩,⟨336,31,336,33⟩,⟨336,30,336,33⟩,⟨336,12,336,34⟩,⟨336,4,336,34⟩,⟨337,4,338,20⟩,⟨339,4,340,20⟩,⟨341,8,341,9⟩,⟨341,13,341,18⟩,⟨341,19,341,24⟩,⟨341,13,341,25⟩,⟨342,8,342,13⟩,⟨342,16,342,25⟩,⟨342,26,342,29⟩,⟨342,16,342,30⟩,⟨342,16,342,48⟩,⟨342,8,342,48⟩,⟨343,8,343,12⟩,⟨343,15,343,24⟩,⟨343,25,343,28⟩,⟨343,15,343,29⟩,⟨343,32,343,34⟩,⟨343,15,343,34⟩,⟨343,8,343,34⟩,⟨344,8,344,12⟩,⟨344,15,344,113⟩,⟨344,8,344,113⟩,⟨341,4,344,113⟩,⟨345,4,345,42⟩]
noncomputable def fx(n:Nat):ax:=K1.getD n default
noncomputable def b0(n:Nat):ax:=K5.getD n default
noncomputable def K7(n:Nat):ax:=K6.getD n default
noncomputable def g':Scope:=match aS (ag 20)with
 |[_,_,_,_, .Return (some (.BinOp (.BinOp _ _ (.Call _ [.ListComp _ _ c _] _ _) _) _ _ _)) _]=>c
 |_=>default
noncomputable def AB:aC->ai
 | .If t _ _ _=>t
 |_=>default
noncomputable def AC:aC->List aC
 | .If _ b _ _=>b
 |_=>[]
noncomputable def K8:aC->List aC
 | .For _ _ b _ _=>b
 |_=>[]
noncomputable def pS:aC->ai
 | .Assign _ v _=>v
 |_=>default
noncomputable def K9:ai->ai
 | .BinOp _ _ r _=>r
 |_=>default
noncomputable def La:ai->ai
 | .IfExp a _ _ _=>a
 |_=>default
noncomputable def Lb:ai->ai
 | .IfExp _ b _ _=>b
 |_=>default
noncomputable def Ld:ai->ai
 | .IfExp _ _ c _=>c
 |_=>default
noncomputable def Le:aC->ai
 | .Return (some e) _=>e
 |_=>default
noncomputable def lW(n:Nat):aC:=((aS (ag 29))[n]?).getD default
noncomputable def pU(n:Nat):aC:=((K8 (lW 6))[n]?).getD default
end
section
noncomputable def dM(B:Addr)(h:Heap):Prop:=∃vs n ns,h.get? B=some (listOf vs.toArray n)/\ lq vs ns/\ vs.length<=64
structure bq(W:Wd)(X:Addr->Prop)(B:Addr)(s s':ah):Prop where
 inv:Inv W s'
 keep:∀b o,¬X b->b≠B->s.heap.get? b=some o->s'.heap.get? b=some o
 ns:∀L m,s.heap.Ns L m->s'.heap.Ns L m
 gens:cY s.gens s'.gens
 os:s'.os=s.os
 drawn:s'.drawn=s.drawn
 live:∀b o,s.heap.get? b=some o->∃o',s'.heap.get? b=some o'
 solid:∀b o,b≠B->dh o->s.heap.get? b=some o->s'.heap.get? b=some o
 box:dM B s'.heap
section
variable{W:Wd}{X:Addr->Prop}{B:Addr}{s s' s'':ah}{A:aA}{l:List av}
theorem Lf{vs:Array ae}{n:Nat}:dh (listOf vs n):=⟨⟨_,by simp[fq],rfl⟩,by intro ø ø q;cases q⟩
theorem dM.solid(b:dM B s.heap)(k:∀b o,dh o->s.heap.get? b=some o->s'.heap.get? b=some o):dM B s'.heap:=by
 refine gC b λvs n ns e i l=> ?_
 exact⟨vs,n,ns,k _ _ Lf e,i,l⟩
theorem After.stepB(a:After W X s s')(b:dM B s.heap):bq W X B s s':=⟨a.inv,λb o n ø e=>a.keep b o n e,a.ns,a.gens,a.os,a.drawn,a.live,λb o ø t e=>a.solid b o t e,b.solid a.solid⟩
theorem bq.trans(x:bq W X B s s')(y:bq W X B s' s''):bq W X B s s'':=
 ⟨y.inv,λb o n q e=>y.keep b o n q (x.keep b o n q e),λL m e=>y.ns L m (x.ns L m e),x.gens.trans y.gens,y.os.trans x.os,y.drawn.trans x.drawn,λb o e=>by obtain⟨o',e'⟩:=x.live b o e;exact y.live b o' e',λb o n t e=>y.solid b o n t (x.solid b o n t e),y.box⟩
theorem bq.refl(I:Inv W s)(b:dM B s.heap):bq W X B s s:=(After.refl I).stepB b
theorem Ready.step(R:Ready W X A l s)(x:bq W X B s s'):Ready W X A l s':=
 ⟨x.inv,R.frames,R.guards,R.handled,R.below.after λL m e=>⟨m,x.ns L m e⟩,R.xtabs,R.xbase,λb hb=>by obtain⟨o,e⟩:=R.xlt b hb;exact x.live b o e⟩
theorem bq.of_keep(I:Inv W s)(hB:W.base.get? B=none)(hT:∀q∈W.tabs,q.2≠B){h':Heap}{tk:Nat}(k:∀b o,b≠B->s.heap.get? b=some o->h'.get? b=some o)(b₀:dM B s.heap)(b:dM B h'):bq W X B s {s with heap:=h',toks:=tk}:=by
 have nB:∀b o,W.base.get? b=some o->b≠B:=λb o e q=>by rw[q,hB]at e;exact al e
 refine gC b₀ λvs n ns e0 ø ø=> ?_
 refine⟨⟨λb o e=>k b o (nB b o e) (I.stays b o e),λq hq=> ?_,I.gens⟩,λb o ø n e=>k b o n e,λL m e=> ?_,cY.refl _,rfl,rfl,λa o e=> ?_,λb o n ø e=>k b o n e,b⟩
 ·refine ay (I.tabs q hq) λps h1 h2=> ?_
  refine⟨ps,?_,?_⟩
  ·refine lw h1 λo vs file tf flags tg inF text tt op x1 r1 r2 r3 r4 r5 r6 x2 x3 r=> ?_
   exact⟨o,vs,file,tf,flags,tg,inF,text,tt,op,k _ _ (λq=>by rw[q,e0]at x1;obtain rfl:=aq x1;cases r1) x1,r1,r2,r3,r4,r5,r6,k _ _ (hT q hq) x2,x3,r⟩
  ·refine xA h2 λzn1 t=> ?_
   refine mJ zn1 λo vs x1 x2 x3 r=> ?_
   exact⟨⟨o,vs,k _ _ (λq=>by rw[q,e0]at x1;obtain rfl:=aq x1;cases x3) x1,x2,x3,r⟩,k _ _ (hT q hq) t⟩
 ·refine e.at' λo eo=>k L o (λq=> ?_) eo
  refine gC e λo es ep e1 d ø=> ?_
  rw[q,e0]at e1;cases e1;cases d
 ·by_cases q:a=B
  ·refine dc b λvs' n' ns' e' ø=> ?_
   exact⟨_,q▸e'⟩
  ·exact⟨o,k a o q e⟩
end
noncomputable abbrev AD:List aC:=
 [.If (.Compare (.Call (.Name (aa "len") (fx 0)) [.Name (aa "box") (fx 1)] [] (fx 2)) [.Eq] [.Constant (.int 0) 0 (fx 3)] (fx 4)) [.Return (some (.Constant (.int 0) 0 (fx 5))) (fx 6)] [] (fx 7),
   .Return (some (.Call (.Attribute (.Name (aa "box") (fx 8)) (aa "pop") (fx 9)) [.Constant (.int 0) 0 (fx 10)] [] (fx 11))) (fx 12)]
theorem AE{W:Wd}{X:Addr->Prop}{h:Heap}{vs:List ae}{ns:List Int}(r:lq vs ns):a8 W X h vs (ns.map .int):=by
 induction r with
 |nil=>exact .nil
 |cons n t _ ih=>exact .cons (.int n t) ih
section
variable{W:Wd}{X:Addr->Prop}{A:aA}{l:List av}{s:ah}{B:Addr}
theorem Lg(I:Inv W s)(hg:A.guards=some [])(hu:A.units<=9000){vs:List ae}{n:Nat}{ns:List Int}(e:s.heap.get? B=some (listOf vs.toArray n))(hi:lq vs ns)(hl:vs.length<=64){Q E:ae->ah->Prop}
  (h:∀t s',After W (λø=>False) s s'->Q (.int (vs.length:Int) t) s'):wpAny W.M A (call (.builtin "len") [.ref B]) Q E s:=by
 have hns':ns.length=vs.length:=by have:=(AE (W:=W) (X:=λø=>False) (h:=s.heap) hi).length;simpa using this.symm
 have r0:Rep W (λø=>False) s.heap (.ref B) (.list (ns.map .int)):= .list e rfl rfl (λq=>q) (by rw[wk];exact AE hi)
 have ln:cW (aa "len") [.list (ns.map .int)]=some (.int (vs.length:Int)):=by
  rw[pR]
  unfold o6
  dsimp only
  rw[cm,if_pos (by rw[gn];exact se ‹_› ‹_› (by rfl)),hns']
 refine ay (tw (Q:=Q) (E:=E) (A:=A) I (λb hb=>hb.elim) hg hu ln (.cons r0 .nil) (λv s' a r=>by cases r;exact h _ _ a)) λfv h1 h2=> ?_
 have:fX (aa "len")=some (.builtin "len"):=rfl
 rw[this]at h1
 obtain rfl:=aq h1
 exact h2
theorem Lh(O:aZ W){fa:Addr}{fd:dv}(D:bw false W fa fd AD [aa "box"]) (hlen:fd.scope.names.lookup (aa "len")=some .globalImplicit)
  (hB:W.base.get? B=none) (hT:∀q∈W.tabs,q.2≠B) (I:Inv W s) (hg:A.guards=some []) (hd:A.depth<=900) (hu:A.units+10<=9000) (bx:dM B s.heap) {Q E:ae->ah->Prop}
  (h:∀i t s',bq W X B s s'->Q (.int i t) s'):wpAny W.M A (call (.ref fa) [.ref B]) Q E s:=by
 have ht:=gn
 have hrl:(900:Nat)<recursionLimit:=by decide+kernel
 refine ay D.at_ λo ho hod=> ?_
 refine gC (id bx) λvs n ns eB hi hl=> ?_
 obtain⟨hh,g,dr,tk,os⟩:=s
 refine jp (rG (binds:=[(aa "box", .ref B)]) (dt hd hrl) (I.stays _ _ ho) hod (I.nolimit O) (D.rec_.keeps I.stays) D.body (D.bind _ [.ref B] I.stays rfl).of D.nocell (λx hx=>by rw[du]at hx;subst hx;exact D.local_ _ (by simp)) (λh₀ hns keep=> ?_) D.co D.gen D.kind)
 have I₀:∀tk,Inv W ⟨h₀,g,dr,tk,os⟩:=λtk=>I.ext keep rfl
 have A1:(A.deeper (callEnv fd hh.objs.size fa)).units<=9000:=by show A.units+3<=9000;exact rN ‹_› (by rfl)
 have hbox:(callEnv fd hh.objs.size fa).kindOf (aa "box")=some .local:=D.local_ _ (by simp)
 refine bT (jq (oK (hm:=rfl) (gA rfl ?_)))
 rw[dS (fx 2) (show bv [jk (aa "box") (fx 1)]=true from rfl)]
 refine kH O (I₀ _) D.kind hlen D.globals D.builtins (by decide+kernel) (O.nogl _ (by simp[blt])) ((O.mbv _ (by decide+kernel)).trans (by kernel_rfl:bootBuiltins "len" =some (.builtin "len"))) ?_
 refine Calls.callWith_builtin rfl (Calls.evalArgs_plain (Calls.spliced_cons (dO (dI D.kind hbox hns rfl (Calls.spliced_nil ?_)) (by decide+kernel))))
 refine Lg (A:=A.deeper (callEnv fd hh.objs.size fa)) (I₀ _) hg A1 (keep _ _ eB) hi hl λt s₁ af1=> ?_
 refine d0 (ky (W:=W) (X:=λø=>False) (op:= .Eq) (a:= .int (vs.length:Int)) (b:= .int 0) (r:=((vs.length:Int)==0)) rfl (.int _ t) (.int 0 _) A1 (ix ?_))
 have kall:∀b o,hh.get? b=some o->s₁.heap.get? b=some o:=λb o e=>af1.keep b o (λq=>q) (keep b o e)
 have sh:∀{h':Heap} {tk':Nat},(∀b o,b≠B->hh.get? b=some o->h'.get? b=some o)->dM B h'->bq W X B ⟨hh,g,dr,tk,os⟩ ⟨h',s₁.gens,s₁.drawn,tk',s₁.os⟩:=λ{h' tk'} k b=>by
  have x:=bq.of_keep (X:=X) (tk:=tk') I hB hT k bx b
  exact⟨⟨x.inv.stays,x.inv.tabs,af1.inv.gens⟩,x.keep,x.ns,af1.gens,af1.os,af1.drawn,x.live,x.solid,x.box⟩
 by_cases hz:vs.length=0
 ·rw[show(((vs.length:Int))==0)=true by rw[hz];rfl,if_pos rfl]
  refine bT (il (d0 ?_))
  have:=sh (h':=s₁.heap) (tk':=s₁.toks+1+1) (λb o ø e=>kall b o e) ⟨vs,n,ns,kall _ _ eB,hi,hl⟩
  exact h _ _ _ this
 ·rw[show(((vs.length:Int))==0)=false by rw[beq_eq_false_iff_ne];exact λh=>hz (fc.inj h),if_neg (by simp)]
  have hns1:=af1.ns _ _ hns
  have eB1:s₁.heap.get? B=some (listOf vs.toArray n):=kall _ _ eB
  have neC:hh.objs.size≠B:=λq=>by have:=eA eB;rw[q]at this;exact jg _ this
  have F1:Fr (hh.hide B) hh.objs.size s₁.heap (λx=>([(aa "box",rF B)]:List (Str×ae)).reverse.lookup x):=⟨hns1,λb o e=>kall b o (Heap.of_hide e),dq (Heap.hide_size _ _)⟩
  have N1:eE (hh.hide B) hh.objs.size s₁.heap [(B,listOf vs.toArray n)]:=λp hp=>by
   rw[du]at hp;subst hp
   exact⟨eB1,cH neC,Heap.hide_self _ _⟩
  refine dQ (bT (il (pB rfl rfl (by simp) (by kernel_rfl) (dO (dI D.kind hbox hns1 rfl λpl=> ?_) (by decide+kernel)))))
  refine kl_method (h₀:=hh.hide B) (L:=hh.objs.size) N1 (.head _) PySem.F.slot_list_pop PySem.F.type_list_pop ?_
  refine Calls.callWith_builtin rfl (Calls.evalArgs_plain (Calls.spliced_cons (d0 (Calls.spliced_nil ?_))))
  cases hi with
  |nil=>exact absurd rfl hz
  | @cons i t0 vs' ns' hi' =>
   refine kl_popAt (s:={s₁ with toks:=s₁.toks+1+1}) (k:=0) (p:=[]) (q:=vs') (y:= .int i t0) F1 N1 (by decide) (by simp[seqIndex?]) rfl (.head (λp hp=>nomatch hp)) (by rw[wk];have:sizeLine=16777216:=mD;exact aV ‹_› (by rfl)) λh2 F2 N2=> ?_
   have b2:dM B h2:=⟨vs',n+1,ns',by simpa using(N2 _ (.head _)).1,hi',by simp at hl;exact aV ‹_› (by rfl)⟩
   have:=sh (h':=h2) (tk':=s₁.toks+1+1) (λb o nb e=>F2.keep b o ((Heap.hide_ne _ nb).trans e)) b2
   exact h _ _ _ this
end
end
section
noncomputable def Txt(x:Str)(L:Nat):Prop:=(an x).length<=L/\ ∀c∈an x,c<1114112
structure fy(env:av)(cb cd:Addr):Prop where
 kind:env.scope.kind= .function
 globals:env.globals=mainGlobals
 builtins:env.builtins=builtinsNs
 kbox:env.kindOf (aa "box")=some .cell
 kdep:env.kindOf (aa "depth")=some .cell
 cbox:env.cells.lookup (aa "box")=some cb
 cdep:env.cells.lookup (aa "depth")=some cd
 ktree:env.kindOf (aa "_law_tree")=some .globalImplicit
structure cr(W:Wd)(X:Addr->Prop)(A:aA)(l:List av)(B cb cd:Addr)(d:Int)(s:ah):Prop where
 R:Ready W X A l s
 XB:X B
 bx:dM B s.heap
 box:s.heap.IsCell cb (some (.ref B))
 dep:∃t,s.heap.IsCell cd (some (.int d t))
 nb:¬X cb
 nd:¬X cd
structure lX(W:Wd)(B:Addr):Prop where
 base:W.base.get? B=none
 tabs:∀q∈W.tabs,q.2≠B
section
variable{W:Wd}{X:Addr->Prop}{A:aA}{l:List av}{B cb cd:Addr}{d:Int}{s s':ah}{env:av}
theorem cr.step(T:cr W X A l B cb cd d s)(x:bq W X B s s'):cr W X A l B cb cd d s':=by
 have up:∀{c:Addr} {v:ae},¬X c->s.heap.IsCell c (some v)->s'.heap.IsCell c (some v):=λ{c v} nc h=>by
  refine ay h λo e dd=> ?_
  exact⟨o,x.keep _ _ nc (λq=>nc (q▸T.XB)) e,dd⟩
 refine xE T.dep λt ht=> ?_
 exact⟨T.R.step x,T.XB,x.box,up T.nb T.box,⟨t,up T.nd ht⟩,T.nb,T.nd⟩
theorem AF(V:fy env cb cd)(T:cr W X A l B cb cd d s){p:ax}{Q E:ae->ah->Prop}(h:Q (.ref B) s):wpAny W.M A (eval (.Name (aa "box") p) env) Q E s:=
 dO (wpAny_loadName_cell V.kind V.kbox V.cbox T.box h) (by decide+kernel)
theorem AG(V:fy env cb cd)(T:cr W X A l B cb cd d s){p:ax}{Q E:ae->ah->Prop}(h:∀t,Q (.int d t) s):wpAny W.M A (eval (.Name (aa "depth") p) env) Q E s:=by
 refine xE T.dep λt ht=> ?_
 exact dO (wpAny_loadName_cell V.kind V.kdep V.cdep ht (h t)) (by decide+kernel)
noncomputable def gt(W:Wd)(B:Addr)(fT:Addr):Prop:=∀(A:aA) (X:Addr->Prop) (s:ah),Inv W s->A.guards=some []->A.depth<=900->A.units+10<=9000->dM B s.heap->∀(Q E:ae->ah->Prop),(∀i t s',bq W X B s s'->Q (.int i t) s')->wpAny W.M A (call (.ref fT) [.ref B]) Q E s
noncomputable abbrev eJ(p q r:ax):ai:= .Call (.Name (aa "_law_take") p) [.Name (aa "box") q] [] r
theorem AH(O:aZ W)(hT:gt W B fT)(hmg:W.mg (aa "_law_take")=some (.ref fT)) (hcal:b7 W (.ref fT)) (V:fy env cb cd) (hk:env.kindOf (aa "_law_take")=some .globalImplicit) (T:cr W X A l B cb cd d s) (hd:A.depth<=900) (hu:A.units+10<=9000) {p q r:ax} {Q E:ae->ah->Prop}
  (h:∀i t s',bq W X B s s'->cr W X A l B cb cd d s'->Q (.int i t) s'):wpAny W.M A (eval (eJ p q r) env) Q E s:=by
 refine gA rfl ?_
 rw[dS r (show bv [jk (aa "box") q]=true from rfl)]
 refine jI O T.R.inv V.kind hk V.globals (by decide+kernel) hmg ?_
 refine hcal A E s r [] _ Q rfl (Calls.evalArgs_plain (Calls.spliced_cons (AF V T (Calls.spliced_nil ⟨T.R.inv,?_⟩))))
 exact hT A X s T.R.inv T.R.guards hd hu T.bx Q E λi t s' x=>h i t s' x (T.step x)
theorem ul(O:aZ W)(hT:gt W B fT)(hmg:W.mg (aa "_law_take")=some (.ref fT)) (hcal:b7 W (.ref fT)) (V:fy env cb cd) (hk:env.kindOf (aa "_law_take")=some .globalImplicit) (T:cr W X A l B cb cd d s) (hd:A.depth<=900) (hu:A.units+10<=9000) {p q r u v:ax} {k:Int} (hk0:0<k/\ k<=1000) {kk:Nat} {Q E:ae->ah->Prop}
  (h:∀i t s',0<=i->i<k->bq W X B s s'->cr W X A l B cb cd d s'->Q (.int i t) s'):wpAny W.M A (eval (.BinOp (eJ p q r) .Mod (.Constant (.int k) kk u) v) env) Q E s:=by
 refine fP (AH O hT hmg hcal V hk T hd hu λi t s₁ x₁ T1=> ?_)
 refine d0 ?_
 have a₂:After W X s₁ {s₁ with toks:=s₁.toks+1}:=After.tok T1.R.inv
 have hz:bH .Mod (.int i) (.int k)=some (.int (i%k)):=by
  show(if 0<k/\ k<=1000 then some (PV.int (i%k))else none)=_
  exact if_pos hk0
 refine jC (W:=W) (X:=X) (op:= .Mod) a₂.inv (T1.R.after a₂).xlt hz (.int i t) (.int k _) λw s₃ a₃ r₃=> ?_
 refine r₃.intE λø zq=> ?_;subst zq
 have x:=x₁.trans ((a₂.trans a₃).stepB T1.bx)
 exact h _ _ _ (Dn _ (vK hk0.1)) (wm _ hk0.1) x (T.step x)
theorem bq.rep(x:bq W X B s s')(hX:X B){v:ae}{p:PV}(r:Rep W X s.heap v p):Rep W X s'.heap v p:=r.mono (λb o nx e=>x.keep b o nx (λq=>nx (q▸hX)) e) λø ø ø n=>n
structure nz(W:Wd)(n:Nat)(f:Str)(fv:ae)(txts:List (List Nat))(b:Nat):Prop where
 mg:W.mg f=some fv
 cal:b7 W fv
 k:f8 W n fv [] (.ok (.list (txts.map .str)))
 ok:∀x∈txts,x.length<=b/\ ∀c∈x,c<1114112
 few:txts.length<=1000/\ 0<txts.length
theorem AI(O:aZ W)(hT:gt W B fT)(hmg:W.mg (aa "_law_take")=some (.ref fT)) (hcal:b7 W (.ref fT)) (V:fy env cb cd) (hk:env.kindOf (aa "_law_take")=some .globalImplicit) (T:cr W X A l B cb cd d s) {n:Nat} (hd:A.depth+n<=900) (hu:A.units+10*n<=9000) (hn:1<=n)
  {f:Str} {fv:ae} {txts:List (List Nat)} {b:Nat} (L:nz W n f fv txts b) (hf:env.kindOf f=some .globalImplicit) (hfd:(f==("__debug__" :Str))=false) {p q r u v p1 p2 p3:ax} {k:Int} (hk0:k=txts.length) {kk:Nat} {Q E:ae->ah->Prop}
  (h:∀x t s',Txt x b->bq W X B s s'->cr W X A l B cb cd d s'->Q (.str x t) s'):wpAny W.M A (eval (.Subscript (.Call (.Name f p1) [] [] p2) (.BinOp (eJ p q r) .Mod (.Constant (.int k) kk u) v) p3) env) Q E s:=by
 have ht:=gn
 obtain⟨hf1,hf2⟩:=L.few
 refine oM (gA rfl ?_)
 rw[dS p2 (show bv []=true from rfl)]
 refine jI O T.R.inv V.kind hf V.globals hfd L.mg ?_
 refine L.cal A E s p2 [] _ _ rfl (evalArgs_nil3 ⟨T.R.inv,?_⟩)
 refine L.k A l s X [] T.R .nil (λq=>nomatch q) hd hu _ _ ⟨λw y s₁ e₁ a₁ r₁=> ?_,λe c s' e₁ ø=>nomatch e₁⟩
 obtain rfl:=de e₁
 have x₁:=a₁.stepB T.bx
 refine ul O hT hmg hcal V hk (T.step x₁) (ao (bk _ _) ‹_›) (jr ‹_› ‹_› (by rfl)) ⟨hk0▸re.mpr hf2,hk0▸oj.mpr hf1⟩ λi t s₂ h0 h1 x₂ T2=> ?_
 have hi:i.toNat<txts.length:=DZ ‹_› ‹_› ‹_›
 have hp:fi (.list (txts.map .str)) (.int i)=some (.str txts[i.toNat]):=by
  show(if 0<=i/\ i<=aX then(txts.map PV.str)[i.toNat]? else _)=_
  rw[if_pos ⟨h0,jf (q7 h1) (hk0▸oj.mpr (ao hf1 (by decide+kernel)))⟩,ll,fQ hi];rfl
 refine xp (W:=W) (X:=X) T2.R.inv hp (x₂.rep T.XB r₁) (.int i t) (λo i' =>rfl) λw s₃ a₃ r₃=> ?_
 have x₃:=x₁.trans (x₂.trans (a₃.stepB T2.bx))
 have ok:=L.ok _ (rE hi)
 generalize txts[i.toNat]=z at r₃ ok
 cases r₃ with
 |str y t' =>exact h y t' s₃ ok x₃ (T.step x₃)
end
end
section
noncomputable def gc(W:Wd)(B:Addr)(fa:Addr)(N L:Nat)(d:Int):Prop:=∀(A:aA) (l:List av) (s:ah) (X:Addr->Prop) (td:bE),Ready W X A l s->X B->dM B s.heap->A.depth+N<=900->A.units+10*N<=9000->∀(Q E:ae->ah->Prop),
 (∀x t s',bq W X B s s'->Txt x L->Q (.str x t) s')->wpAny W.M A (call (.ref fa) [.ref B, .int d td]) Q E s
section
variable{W:Wd}{X:Addr->Prop}{A:aA}{l:List av}{B cb cd fa:Addr}{d:Int}{s s':ah}{env:av}{N L:Nat}
theorem bq.chg{s₀ s₁:ah}{h':Heap}{tk:Nat}{b₀:Addr}(I:Inv W s₀)(B₀:dM B s₀.heap)(x:bq W X B s₀ s₁)(hn:s₀.heap.get? b₀=none)(ext:eP b₀ s₁.heap h')(hc:∀f,¬s₁.heap.Ns b₀ f \/s₀.heap.get? b₀=none):bq W X B s₀ {s₁ with heap:=h',toks:=tk}:=by
 have ne:∀b o,s₀.heap.get? b=some o->b≠b₀:=λb o e q=>by rw[q,hn]at e;exact al e
 have neB:B≠b₀:=by obtain⟨_,_,_,e,_⟩:=B₀;exact ne _ _ e
 refine⟨⟨λb o e=>ext b o (ne b o (I.stays b o e)) (x.inv.stays b o e),λq hq=> ?_,x.inv.gens⟩,λb o nx nb e=>ext b o (ne b o e) (x.keep b o nx nb e),λL m e=> ?_,x.gens,x.os,x.drawn,λb o e=> ?_,λb o nb so e=>ext b o (ne b o e) (x.solid b o nb so e),?_⟩
 ·refine ay (x.inv.tabs q hq) λps h1 h2=> ?_
  refine ay (I.tabs q hq) λps0 k1 k2=> ?_
  have nc:q.1≠b₀:=by obtain⟨o,_,_,_,_,_,_,_,_,_,e,_⟩:=k1;exact ne _ _ e
  have nP:q.2≠b₀:=ne _ _ k2.2
  refine⟨ps,?_,h2.extBut ext nc nP⟩
  refine lw h1 λo vs file tf flags tg inF text tt op x1 r1 r2 r3 r4 r5 r6 x2 x3 r=> ?_
  exact⟨o,vs,file,tf,flags,tg,inF,text,tt,op,ext _ _ nc x1,r1,r2,r3,r4,r5,r6,ext _ _ nP x2,x3,r⟩
 ·have nL:L≠b₀:=by obtain⟨o,_,_,eo,_⟩:=e;exact ne _ _ eo
  exact(x.ns L m e).at' λo eo=>ext L o nL eo
 ·refine xE (x.live b o e) λo' e' => ?_
  exact⟨o',ext b o' (ne b o e) e'⟩
 ·refine dc x.box λvs n ns e r=> ?_
  exact⟨vs,n,ns,ext _ _ neB e,r⟩
noncomputable abbrev nE(p1 p2 p3 p4 p5 p6:ax):ai:= .Call (.Name (aa "_law_tree") p1) [.Name (aa "box") p2, .BinOp (.Name (aa "depth") p3) .Add (.Constant (.int 1) 0 p4) p5] [] p6
set_option tactic.hygienic true in
theorem um(O:aZ W)(hT:gc W B fa N L (d+1))(hmg:W.mg (aa "_law_tree")=some (.ref fa)) (hcal:b7 W (.ref fa)) (V:fy env cb cd) (T:cr W X A l B cb cd d s) (hd:A.depth+N<=900) (hu:A.units+10*N<=9000) {p1 p2 p3 p4 p5 p6:ax} {Q E:ae->ah->Prop}
  (h:∀x t s',Txt x L->bq W X B s s'->cr W X A l B cb cd d s'->Q (.str x t) s'):wpAny W.M A (eval (nE p1 p2 p3 p4 p5 p6) env) Q E s:=by
 refine gA rfl ?_
 rw[dS p6 (show bv [jk (aa "box") p2, .BinOp (.Name (aa "depth") p3) .Add (.Constant (.int 1) 0 p4) p5]=true from rfl)]
 refine jI O T.R.inv V.kind V.ktree V.globals (by decide+kernel) hmg ?_
 refine hcal A E s p6 [] _ Q rfl (Calls.evalArgs_plain (Calls.spliced_cons (AF V T (Calls.spliced_cons (fP (AG V T λtd=>d0 ?_))))))
 have a₂:After W X s {s with toks:=s.toks+1}:=After.tok T.R.inv
 refine jC (W:=W) (X:=X) (op:= .Add) a₂.inv (T.R.after a₂).xlt (show bH .Add (.int d) (.int 1)=some (.int (d+1))from rfl) (.int d td) (.int 1 _) λw s₃ a₃ r₃=> ?_
 cases r₃
 rename_i t₃
 have x:=(a₂.trans a₃).stepB T.bx
 have T3:=T.step x
 exact Calls.spliced_nil ⟨a₃.inv,hT A l s₃ X t₃ T3.R T3.XB T3.bx hd hu Q E λz t s' x' ok=>h z t s' ok (x.trans x') (T3.step x')⟩
theorem Li:∀i:Int,1<=i->i<=30->(ej i).length<=2/\ ∀c∈ej i,c<1114112:=λi h1 h2=>by
 have key:(iL 31).all (λk=>decide ((ej (k:Int)).length<=2)&&(ej (k:Int)).all λc=>decide (c<1114112))=true:=by decide+kernel
 have:=ba.mp key i.toNat (ji.mpr ((vD (jf (by decide) h1)).mpr (oi h2 (by decide))))
 rw[show((i.toNat:Nat):Int)=i from rg (jf (by decide) h1)]at this
 simp only[aI,decide_eq_true_eq,ba]at this
 exact this
set_option tactic.hygienic true in
theorem Lj(O:aZ W)(hT:gt W B fa)(hmg:W.mg (aa "_law_take")=some (.ref fa)) (hcal:b7 W (.ref fa)) (V:fy env cb cd) (hk:env.kindOf (aa "_law_take")=some .globalImplicit) (hs:env.kindOf (aa "str")=some .globalImplicit) (T:cr W X A l B cb cd d s) (hd:A.depth<=900) (hu:A.units+10<=9000)
  {p1 p2 p q r u v p3 p4:ax} {Q E:ae->ah->Prop}
  (h:∀x t s',Txt x 2->bq W X B s s'->cr W X A l B cb cd d s'->Q (.str x t) s'):wpAny W.M A (eval (.Call (.Name (aa "str") p1) [.BinOp (.Constant (.int 1) 0 p2) .Add (.BinOp (eJ p q r) .Mod (.Constant (.int 30) 0 u) v) p3] [] p4) env) Q E s:=by
 refine gA rfl ?_
 rw[dS p4 (show bv [ai.BinOp (.Constant (.int 1) 0 p2) .Add (.BinOp (eJ p q r) .Mod (.Constant (.int 30) 0 u) v) p3]=true from rfl)]
 refine kH O T.R.inv V.kind hs V.globals V.builtins (by decide+kernel) (O.nogl _ (by simp[blt])) ((O.mbv _ (by decide+kernel)).trans (by kernel_rfl:bootBuiltins "str" =some (.type "str"))) ?_
 refine go (W:=W) "str" A E s p4 [] _ Q rfl (Calls.evalArgs_plain (Calls.spliced_cons (fP (d0 ?_))))
 have a₀:After W X s {s with toks:=s.toks+1}:=After.tok T.R.inv
 have x₀:=a₀.stepB T.bx
 refine ul O hT hmg hcal V hk (T.step x₀) hd hu (by decide) λi t s₂ h0 h1 x₂ T2=> ?_
 refine jC (W:=W) (X:=X) (op:= .Add) T2.R.inv T2.R.xlt (show bH .Add (.int 1) (.int i)=some (.int (1+i))from rfl) (.int 1 _) (.int i t) λw s₃ a₃ r₃=> ?_
 cases r₃
 rename_i t₃
 have x₃:=x₀.trans (x₂.trans (a₃.stepB T2.bx))
 have T3:=T.step x₃
 refine Calls.spliced_nil ⟨a₃.inv,?_⟩
 refine xA (Li (1+i) (Int.le_add_of_nonneg_right h0) (ol i 1▸wn h1)) λk1 k2=> ?_
 have hb:cW (aa "str") [.int (1+i)]=some (.str (ej (1+i))):=by
  rw[Az]
  have:small (1+i)=true:=by
   unfold small ir
   refine decide_eq_true (ao (D7 (n:=30) (Do (by decide) h0) (ol i 1▸wn h1)) (by decide+kernel))
  exact if_pos this
 obtain⟨fv,f1,f2⟩:=tw (Q:=Q) (E:=E) (A:=A) (W:=W) (X:=X) T3.R.inv T3.R.xlt T3.R.guards (ao (bk _ _) ‹_›) hb (.cons (.int (1+i) t₃) .nil) (λw s₄ a₄ r₄=>by
  generalize hz:ej (1+i)=z at r₄ k1 k2
  refine r₄.strE λy t₄ zq2 zq3=> ?_;subst zq2 zq3
  have x₄:=x₃.trans (a₄.stepB T3.bx)
  exact h y t₄ s₄ ⟨k1,k2⟩ x₄ (T.step x₄))
 have:fX (aa "str")=some (.type "str"):=rfl
 rw[this]at f1
 obtain rfl:=aq f1
 exact f2
theorem kK{x y:Str}{t u:bE}{L M:Nat}(hL:L+M<=1000)(T:cr W X A l B cb cd d s)(hx:Txt x L)(hy:Txt y M){Q E:ae->ah->Prop}(h:∀z t s',Txt z (L+M)->bq W X B s s'->cr W X A l B cb cd d s'->Q (.str z t) s'):wpAny W.M A (binaryOp .Add (.str x t) (.str y u)) Q E s:=by
 have hsl:sizeLine=16777216:=mD
 refine xA hx λx1 x2=> ?_
 refine xA hy λy1 y2=> ?_
 have lx:=bY x
 have ly:=bY y
 refine SB.add (λt' k' => ?_) (ao (Dp (lx▸x1) (ly▸y1)) (ao hL (by decide+kernel)))
 have a:After W X s {s with toks:=k'}:=After.tok T.R.inv
 have xx:=a.stepB T.bx
 refine h _ t' _ ⟨?_,λc hc=> ?_⟩ xx (T.step xx)
 ·rw[iX,cy];exact Dp x1 y1
 ·rw[iX]at hc
  exact(gU.mp hc).elim (x2 c) (y2 c)
end
end
section
structure pV(csc:Scope)(env:av)(cl:List (Str×Addr))(cb cd:Addr):Prop where
 clos:closureFor csc env=pure cl
 kind:csc.kind= .function
 names:∀y∈csc.names,y.2= .local->csc.names.lookup y.1=some .local
 nocell:∀y∈csc.names,y.2≠ .cell
 k:csc.names.lookup (aa "k")=some .local
 env:∀Cm,fy (compEnvC csc cl Cm env) cb cd
noncomputable def lY(vs:List ae)(L:Nat):Prop:=∃f,dC vs f/\ ∀x∈f,x.length<=L/\ ∀c∈x,c<1114112
theorem lY.push{vs:List ae}{L:Nat}{y:Str}{t:bE}(h:lY vs L)(hy:Txt y L):lY (vs++[.str y t]) L:=by
 refine ay h λf h1 h2=> ?_
 refine⟨f++[an y],h1.push,λx hx=> ?_⟩
 refine ck (gU.mp hx) (λq=> ?_) (λq=> ?_)
 ·exact h2 x q
 ·rw[du]at q;subst q;exact hy
section
variable{W:Wd}{X:Addr->Prop}{A:aA}{l:List av}{B cb cd fa fT:Addr}{d:Int}{s s':ah}{env:av}{N L:Nat}
theorem AJ(n:Int)(h0:0<=n)(h1:n<=1000):Builtin.Range.small 0 n 1=true:=small_one (by decide) (by decide) (oX ‹_› (by rfl)) (DN ‹_› (by rfl))
noncomputable abbrev AK:ai:= .BinOp (.Constant (.int 1) 0 (b0 83)) .Add (.BinOp (eJ (b0 84) (b0 85) (b0 86)) .Mod (.Constant (.int 3) 0 (b0 87)) (b0 88)) (b0 89)
noncomputable abbrev Lk:ai:= .Call (.Name (aa "range") (b0 82)) [AK] [] (b0 90)
noncomputable abbrev pW:ai:= .ListComp (nE (b0 75) (b0 76) (b0 77) (b0 78) (b0 79) (b0 80)) [⟨.Name (aa "k") (b0 81),Lk,[],0⟩] g' (b0 91)
inductive AL(W:Wd)(X:Addr->Prop)(B I₀ D Cm:Addr)(L n:Nat)(s₄:ah)(k:Nat)(s':ah):Prop
 |mk (j:Nat) (ys:List ae) (m:Nat) (f:Str->Option ae):k=n+1-j->j<=n->bq W X B s₄ s'->oQ s'.heap I₀ (0+(j:Int)*1) ((n:Int)-(j:Int)) 1->s'.heap.get? D=some (listOf ys.toArray m)->ys.length=j->lY ys L->s'.heap.Ns Cm f->AL W X B I₀ D Cm L n s₄ k s'
theorem Ll(O:aZ W)(hT:gc W B fa N L (d+1))(hmg:W.mg (aa "_law_tree")=some (.ref fa)) (hcal:b7 W (.ref fa)) {s₄ s₇:ah} (T4:cr W X A l B cb cd d s₄) (hd:A.depth+N<=900) (hu:A.units+10*N<=9000) {cl:List (Str×Addr)} (Cc:pV g' env cl cb cd) {I₀ D Cm:Addr} {n:Nat} (hn:n<=3)
  (ID:I₀≠D) (IC:I₀≠Cm) (DC:D≠Cm) (nI:s₄.heap.get? I₀=none) (nD:s₄.heap.get? D=none) (nC:s₄.heap.get? Cm=none) (xI:¬X I₀) (xD:¬X D) (BI:I₀≠B) (BD:D≠B)
  (x₇:bq W X B s₄ s₇) (hit7:oQ s₇.heap I₀ (0+((0:Nat):Int)*1) ((n:Int)-((0:Nat):Int)) 1) (hl7:s₇.heap.get? D=some (listOf ([]:List ae).toArray 0)) {f₇:Str->Option ae} (hns7:s₇.heap.Ns Cm f₇) {Rr:Result->ah->Prop}
  (hR:∀s' ys m f,s'.heap.Ns Cm f->bq W X B s₄ s'->s'.heap.get? D=some (listOf ys.toArray m)->ys.length<=3->lY ys L->Rr (.ok .next) s'):
  codeAny W.M A (.compLoop pW 0 (.ref I₀) (.ref D) (compEnvC g' cl Cm env)) Rr s₇:=by
 have Wk:=Walks.range (prog:=ig) (w:=W.w) T4.R.handled I₀ 0 1 n
 refine codeAny_compLoop_tests (AL W X B I₀ D Cm L n s₄) ?_ (n+1) ⟨0,[],0,_,rfl,dZ _,x₇,hit7,hl7,rfl,⟨[], .nil,λx hx=>nomatch hx⟩,hns7⟩
 intro k s₅ zn1
 obtain⟨j,ys,m,f,rfl,hj,x₅,hit,hl,hlen,htx,hns⟩:=zn1
 by_cases hlt:j<n
 ·refine Wk.item j s₅ _ _ hlt hit λw h₈ tk₈ hP hit8 k₈=> ?_
  have ext8:eP I₀ s₅.heap h₈:=gD k₈
  have x₈:bq W X B s₄ {s₅ with heap:=h₈,toks:=tk₈}:=bq.chg T4.R.inv T4.bx x₅ nI ext8 λø=> .inr nI
  have hns8:h₈.Ns Cm f:=hns.at' λo e=>ext8 Cm o (cH IC) e
  have hl8:h₈.get? D=some (listOf ys.toArray m):=ext8 D _ (cH ID) hl
  refine kc (lm (lookup_relabel_local Cc.k) hns8 (λh₉ hns9 hs9=> ?_) (by show(g'.kind== .class||(g'.kind== .module&&_))=false;rw[Cc.kind];rfl))
  have x₉:bq W X B s₄ {s₅ with heap:=h₉,toks:=tk₈+1}:=bq.chg (s₁:={s₅ with heap:=h₈,toks:=tk₈}) T4.R.inv T4.bx x₈ nC hs9.extBut λø=> .inr nC
  have hit9:oQ h₉ I₀ (0+((j+1:Nat):Int)*1) ((n:Int)-((j+1:Nat):Int)) 1:=hs9.extBut I₀ _ IC hit8
  have hl9:h₉.get? D=some (listOf ys.toArray m):=hs9.extBut D _ DC hl8
  refine wpAny_tests_nil ?_
  simp only[if_true]
  refine um O hT hmg hcal (Cc.env Cm) (T4.step x₉) hd hu λz tz s10 hz y10 T10=> ?_
  refine append_at (hsz:=by rw[oJ,mD];exact ao (dq hlen) (ao (fM hlt) (ao hn (bz rfl)))) (y10.keep D _ xD BD hl9) λh₁₁ hs11 hl11=> ?_
  have x₁₁:bq W X B s₄ {s10 with heap:=h₁₁}:=bq.chg (tk:=s10.toks) T4.R.inv T4.bx (x₉.trans y10) nD hs11.extBut λø=> .inr nD
  refine⟨n+1-(j+1),t8 hlt,j+1,ys++[.str z tz],m+1,_,rfl,hlt,x₁₁,hs11.extBut I₀ _ ID (y10.keep I₀ _ xI BI hit9),?_,by simp[hlen],htx.push hz,(y10.ns _ _ hns9).at' λo e=>hs11.extBut Cm o (cH DC) e⟩
  rw[hl11]
  simp
 ·have:j=n:=mP ‹_› ‹_›
  subst this
  refine Wk.done s₅ _ _ hit λh₈ tk₈ k₈=> ?_
  have ext8:eP I₀ s₅.heap h₈:=gD k₈
  have x₈:bq W X B s₄ {s₅ with heap:=h₈,toks:=tk₈}:=bq.chg T4.R.inv T4.bx x₅ nI ext8 λø=> .inr nI
  exact hR _ ys m f (hns.at' λo e=>ext8 Cm o (cH IC) e) x₈ (ext8 D _ (cH ID) hl) (kl ‹_› ‹_›) htx
set_option tactic.hygienic true in
theorem Lm(O:aZ W)(hT:gc W B fa N L (d+1))(hmg:W.mg (aa "_law_tree")=some (.ref fa)) (hcal:b7 W (.ref fa)) (hK:gt W B fT) (hmgK:W.mg (aa "_law_take")=some (.ref fT)) (hcalK:b7 W (.ref fT)) (V:fy env cb cd) (hk:env.kindOf (aa "_law_take")=some .globalImplicit) (hr:env.kindOf (aa "range")=some .globalImplicit)
  (T:cr W X A l B cb cd d s) (hd:A.depth+N<=900) (hu:A.units+10*N<=9000) (hN:1<=N) {cl:List (Str×Addr)} (Cc:pV g' env cl cb cd)
  {Q E:ae->ah->Prop}
  (h:∀D vs n s',s'.heap.get? D=some (listOf vs.toArray n)->vs.length<=3->lY vs L->¬X D->bq W X B s s'->cr W X A l B cb cd d s'->Q (.ref D) s'):
  wpAny W.M A (eval pW env) Q E s:=by
 have hsl:sizeLine=16777216:=mD
 rw[eval_ListComp]
 refine wpAny_comprehension_free (use:=none) rfl (by intro ø;rfl) Cc.clos Cc.kind Cc.names ?_
 refine gA rfl ?_
 rw[dS (b0 90) (show bv [AK]=true from rfl)]
 refine kH O T.R.inv V.kind hr V.globals V.builtins (by decide+kernel) (O.nogl _ (by simp[blt])) ((O.mbv _ (by decide+kernel)).trans (by kernel_rfl:bootBuiltins "range" =some (.type "range"))) ?_
 refine go (W:=W) "range" A E s (b0 90) [] _ _ rfl (Calls.evalArgs_plain (Calls.spliced_cons (fP (d0 ?_))))
 have a₀:After W X s {s with toks:=s.toks+1}:=After.tok T.R.inv
 have x₀:=a₀.stepB T.bx
 refine ul O hK hmgK hcalK V hk (T.step x₀) (ao (bk _ _) ‹_›) (jr ‹_› ‹_› (by rfl)) (by decide) λi t s₂ h0 h1 x₂ T2=> ?_
 refine jC (W:=W) (X:=X) (op:= .Add) T2.R.inv T2.R.xlt (show bH .Add (.int 1) (.int i)=some (.int (1+i))from rfl) (.int 1 _) (.int i t) λw s₃ a₃ r₃=> ?_
 cases r₃
 rename_i t₃
 have x₃:=x₀.trans (x₂.trans (a₃.stepB T2.bx))
 have T3:=T.step x₃
 refine Calls.spliced_nil ⟨a₃.inv,call_range_1 ?_⟩
 have a₄:After W X s₃ {s₃ with heap:=s₃.heap.push {cls:= .type "range",data:= .fields #[.int 0 s₃.toks, .int (1+i) t₃, .int 1 (s₃.toks+1)]},toks:=s₃.toks+1+1}:=After.push T3.R.inv _
 have x₄:=x₃.trans (a₄.stepB T3.bx)
 have T4:=T.step x₄
 obtain⟨s₄,hs4⟩:∃s₄,s₄=({s₃ with heap:=s₃.heap.push {cls:= .type "range",data:= .fields #[.int 0 s₃.toks, .int (1+i) t₃, .int 1 (s₃.toks+1)]},toks:=s₃.toks+1+1}:ah):=⟨_,rfl⟩
 have hr4:IsRange s₄.heap s₃.heap.objs.size 0 (1+i) 1 s₃.toks t₃ (s₃.toks+1):=by rw[hs4];exact IsRange.new _ _ _ _ _ _ _
 rw[<-hs4]at x₄ T4 ⊢
 clear hs4 a₄
 refine wpAny_pyIter_range hr4 (AJ _ (Do (by decide) h0) (jf (b:=3) (ol i 1▸wn h1) (by decide))) ?_
 rw[rangeSize_one,if_pos (ol i 1▸Pk h0)]
 refine Dc ?_ (by show 0<=sizeLine;exact bz (by rfl))
 refine Dd Cc.nocell (by intro y hy;simp at hy) (λh₇ hns7 hsb7=> ?_) Cc.kind
 dsimp only at hns7 hsb7 ⊢
 obtain⟨I₀,hI0⟩:∃I₀,s₄.heap.objs.size=I₀:=⟨_,rfl⟩
 rw[hI0]
 generalize hH1:s₄.heap.push {cls:= .type "range_iterator",data:= .fields #[rawInt 0,rawInt (1+i-0),rawInt 1]}=H1 at hns7 hsb7 ⊢
 have z1:H1.objs.size=I₀+1:=by rw[<-hH1,jn,hI0]
 generalize hH2:H1.push {cls:= .type "list",data:= .seq ([]:List ae).toArray}=H2 at hns7 hsb7 ⊢
 have z2:H2.objs.size=I₀+2:=by rw[<-hH2,jn,z1]
 obtain⟨D,hD⟩:∃D,H1.objs.size=D:=⟨_,rfl⟩
 obtain⟨Cm,hCm⟩:∃Cm,H2.objs.size=Cm:=⟨_,rfl⟩
 rw[hD]at z1 ⊢
 rw[hCm]at hns7 hsb7 z2
 have nat3:∀a b c:Nat,b=a+1->c=a+2->a≠b/\ a≠c/\ b≠c:=λa b c h1 h2=>r7 ‹_› ‹_›
 refine bL (nat3 _ _ _ z1 z2) λID IC DC=> ?_
 have nI:s₄.heap.get? I₀=none:=dP (by rw[hI0];exact bO _)
 have nD:s₄.heap.get? D=none:=dP (by rw[hI0];have:D=I₀+1:=z1;exact lC ‹_›)
 have nC:s₄.heap.get? Cm=none:=dP (by rw[hI0];have:Cm=I₀+2:=z2;exact lC ‹_›)
 have xI:¬X I₀:=λhx=>by obtain⟨o,e⟩:=T4.R.xlt _ hx;rw[nI]at e;exact al e
 have xD:¬X D:=λhx=>by obtain⟨o,e⟩:=T4.R.xlt _ hx;rw[nD]at e;exact al e
 have BI:I₀≠B:=λq=>xI (q▸T.XB)
 have BD:D≠B:=λq=>xD (q▸T.XB)
 have old:∀b o,s₄.heap.get? b=some o->h₇.get? b=some o:=λb o e=>
  hsb7.extBut b o (λq=>by rw[q,nC]at e;exact al e) (bX _ (hH2▸bX _ (hH1▸bX _ e)))
 have a₇:After W X s₄ {s₄ with heap:=h₇,toks:=s₄.toks+([]:List (Str×ae)).length}:=After.of_keeps T4.R.inv old
 have hit7:oQ h₇ I₀ (0+((0:Nat):Int)*1) ((((1+i).toNat:Nat):Int)-((0:Nat):Int)) 1:=by
  have:H1.get? I₀=some {cls:= .type "range_iterator",data:= .fields #[rawInt 0,rawInt (1+i-0),rawInt 1]}:=by rw[<-hH1,<-hI0];exact ee _ rfl
  have e1:(((1+i).toNat:Nat):Int)-((0:Nat):Int)=1+i-0:=(vG _).trans ((rg (Do (by decide) h0)).trans (vG _).symm)
  rw[e1]
  exact(hsb7.extBut I₀ _ IC (bX _ (hH2▸bX _ this)))
 have hl7:h₇.get? D=some (listOf ([]:List ae).toArray 0):=by
  have:H2.get? D=some (listOf ([]:List ae).toArray 0):=by rw[<-hH2,<-hD];exact ee _ rfl
  exact hsb7.extBut D _ DC (bX _ this)
 subst hCm
 have loop:codeAny W.M A (.compLoop pW 0 (.ref I₀) (.ref D) (compEnvC g' cl H2.objs.size env)) (compPost W.M A E none Q (.ref D) H2.objs.size) {s₄ with heap:=h₇,toks:=s₄.toks+([]:List (Str×ae)).length}:=by
  refine Ll O hT hmg hcal T4 hd hu Cc (Dq.mpr (ol i 1▸wn h1)) ID IC DC nI nD nC xI xD BI BD (a₇.stepB T4.bx) hit7 hl7 hns7 λs₅ ys m f hns x₅ hl hlen htx=> ?_
  refine⟨f,hns,λh₉ hs9=> ?_⟩
  have x₉:bq W X B s₄ {s₅ with heap:=h₉}:=bq.chg (tk:=s₅.toks) T4.R.inv T4.bx x₅ nC hs9.extBut λø=> .inr nC
  exact h D ys m _ (hs9.extBut D _ DC hl) hlen htx xD (x₄.trans x₉) (T4.step x₉)
 exact codeAny_compStart_list loop ((Walks.range (prog:=ig) (w:=W.w) T.R.handled I₀ 0 1 (1+i).toNat).self 0 _ _ _ hit7 loop)
end
end
section
noncomputable abbrev Ln(p:Nat->ax):aC:=
 .Assign [.Name (aa "kind") (p 0)] (.BinOp (eJ (p 1) (p 2) (p 3)) .Mod (.IfExp (.Compare (.Name (aa "depth") (p 4)) [.Lt] [.Constant (.int 2) 0 (p 5)] (p 6)) (.Constant (.int 6) 0 (p 7)) (.Constant (.int 3) 0 (p 8)) (p 9)) (p 10)) (p 11)
noncomputable abbrev Lo(p:Nat->ax):aC:=
 .If (.Compare (.Name (aa "kind") (p 12)) [.Lt] [.Constant (.int 3) 0 (p 13)] (p 14)) [.Return (some (.BinOp (.Subscript (.Call (.Name (aa "_law_names") (p 15)) [] [] (p 16)) (.BinOp (eJ (p 17) (p 18) (p 19)) .Mod (.Constant (.int 11) 0 (p 20)) (p 21)) (p 22)) .Add (.Subscript (.Call (.Name (aa "_law_subs") (p 23)) [] [] (p 24)) (.BinOp (eJ (p 25) (p 26) (p 27)) .Mod (.Constant (.int 12) 0 (p 28)) (p 29)) (p 30)) (p 31))) (p 32)] [] (p 33)
noncomputable abbrev Lp(p:Nat->ax):aC:=
 .If (.Compare (.Name (aa "kind") (p 34)) [.Eq] [.Constant (.int 3) 0 (p 35)] (p 36)) [.Return (some (.BinOp (.BinOp (.BinOp (nE (p 37) (p 38) (p 39) (p 40) (p 41) (p 42)) .Add (.Constant (.str (aa "[")) 0 (p 43)) (p 44)) .Add (.Call (.Name (aa "str") (p 45)) [.BinOp (.Constant (.int 1) 0 (p 46)) .Add (.BinOp (eJ (p 47) (p 48) (p 49)) .Mod (.Constant (.int 30) 0 (p 50)) (p 51)) (p 52)] [] (p 53)) (p 54)) .Add (.Constant (.str (aa "]")) 0 (p 55)) (p 56))) (p 57)] [] (p 58)
noncomputable abbrev Lq(p:Nat->ax):aC:=
 .If (.Compare (.Name (aa "kind") (p 59)) [.Eq] [.Constant (.int 4) 0 (p 60)] (p 61)) [.Return (some (.BinOp (nE (p 62) (p 63) (p 64) (p 65) (p 66) (p 67)) .Add (.Constant (.str (aa "[]")) 0 (p 68)) (p 69))) (p 70)] [] (p 71)
noncomputable abbrev Lr(p:Nat->ax)(csc:Scope)(sep mj:Str):aC:=
 .Return (some (.BinOp (.BinOp (.Constant (.str (aa "(")) 0 (p 72)) .Add (.Call (.Attribute (.Constant (.str sep) 0 (p 73)) mj (p 74)) [.ListComp (nE (p 75) (p 76) (p 77) (p 78) (p 79) (p 80)) [⟨.Name (aa "k") (p 81), .Call (.Name (aa "range") (p 82)) [.BinOp (.Constant (.int 1) 0 (p 83)) .Add (.BinOp (eJ (p 84) (p 85) (p 86)) .Mod (.Constant (.int 3) 0 (p 87)) (p 88)) (p 89)] [] (p 90),[],0⟩] csc (p 91)] [] (p 92)) (p 93)) .Add (.Constant (.str (aa ")")) 0 (p 94)) (p 95))) (p 96)
noncomputable abbrev un:List aC:=[Ln b0,Lo b0,Lp b0,Lq b0,Lr b0 g' (aa ",") (aa "join")]
section
variable{W:Wd}{X:Addr->Prop}{A:aA}{l:List av}{B cb cd fa fT Lc:Addr}{d:Int}{s s':ah}{env:av}{N L:Nat}
theorem uo{op:e6}{k:Int}{f:Int->Int->Bool}(hop:∀i j:Int,kr op (.int i) (.int j)=some (f i j))(V:fy env cb cd)(hL:env.locals=Lc)(hkk:env.kindOf (aa "kind")=some .local) {m:Str->Option ae} {i:Int} {t:bE} (hn:s.heap.Ns Lc m) (hm:m (aa "kind")=some (.int i t)) (hu:A.units<=9000) {p q r:ax} {wh:Sem ae} {Q:Bool->ah->Prop} {E:ae->ah->Prop}
  (h:Q (f i k) {s with toks:=s.toks+1}):wpAny W.M A (isTrue (.Compare (.Name (aa "kind") p) [op] [.Constant (.int k) 0 q] r) env wh) Q E s:=by
 have hm':behindInMarks op (.Constant (.int k) 0 q)=false:=by cases op<;>rfl
 exact oK (hm:=hm') (dO (dI V.kind hkk (hL▸hn) hm (d0 (ky (W:=W) (X:=λø=>False) (hop i k) (.int i t) (.int k _) hu (ix h)))) (by decide+kernel))
theorem lZ(T:cr W X A l B cb cd d s){x:Str}{L:Nat}(hx:Txt x L){p:ax}{Q E:ae->ah->Prop}(h:∀t s',Txt x L->bq W X B s s'->cr W X A l B cb cd d s'->Q (.str x t) s'):wpAny W.M A (eval (.Constant (.str x) 0 p) env) Q E s:=by
 have x:=(After.tok (X:=X) (tk:=s.toks+1) T.R.inv).stepB T.bx
 exact kb (h _ _ hx x (T.step x))
theorem l0{x:Str}{L:Nat}(h:(decide ((an x).length<=L)&&(an x).all λc=>decide (c<1114112))=true):Txt x L:=by
 rw[aI,decide_eq_true_eq,ba]at h
 exact⟨h.1,λc hc=>of_decide_eq_true (h.2 c hc)⟩
theorem AM(L:Nat):∀f:List (List Nat),(∀x∈f,x.length<=L)->(aG [44] f).length<=f.length*(L+1)
 |[],_=>by simp[aG]
 |[x],h=>by have:=h x (by simp);simp[aG];exact iN ‹_›
 |x::y::r,h=>by
  have h1:=h x (by simp)
  have h2:=AM L (y::r) λz hz=>h z (dN _ hz)
  have e:(aG [44] (x::y::r)).length=x.length+1+(aG [44] (y::r)).length:=by simp[aG];exact lc _ _ 1
  have e2:(x::y::r).length*(L+1)=(L+1)+(y::r).length*(L+1):=by
   rw[gj,Nat.add_mul,Nat.one_mul,om]
  exact ao (dq e) (ao (Dp (fJ h1) h2) (dq e2.symm))
theorem AN:∀f:List (List Nat),(∀x∈f,∀c∈x,c<1114112)->∀c∈aG [44] f,c<1114112
 |[],_,c,hc=>by simp[aG]at hc
 |[x],h,c,hc=>h x (by simp) c (by simpa[aG] using hc)
 |x::y::r,h,c,hc=>by
  have:c∈x++[44]++aG [44] (y::r):=hc
  rcases gU.mp this with q|q
  ·rcases gU.mp q with q|q
   ·exact h x (by simp) c q
   ·rw[du]at q;exact q▸(by decide:(44:Nat)<1114112)
  ·exact AN (y::r) (λz hz=>h z (dN _ hz)) c q
theorem AO:∀f:List (List Nat),cO (f.map .str)=some f
 |[]=>rfl
 |x::r=>by
  show(cO (r.map .str)).map (x:: ·)=_
  rw[AO r];rfl
theorem Ls(f:List (List Nat))(h:1+(aG [44] f).length<=aX):ci (aa "join") (an (aa ",")) [.list (f.map .str)]=some (.str (aG [44] f)):=by
 rw[AA]
 show(cO (f.map .str)).bind _=_
 rw[AO]
 exact if_pos (by rw[yQ,Ph];exact h)
noncomputable abbrev Lu:ai:= .Call (.Attribute (.Constant (.str (aa ",")) 0 (b0 73)) (aa "join") (b0 74)) [pW] [] (b0 92)
theorem Lw(O:aZ W)(hT:gc W B fa N L (d+1))(hmg:W.mg (aa "_law_tree")=some (.ref fa)) (hcal:b7 W (.ref fa)) (hK:gt W B fT) (hmgK:W.mg (aa "_law_take")=some (.ref fT)) (hcalK:b7 W (.ref fT)) (V:fy env cb cd) (hk:env.kindOf (aa "_law_take")=some .globalImplicit) (hr:env.kindOf (aa "range")=some .globalImplicit)
  (T:cr W X A l B cb cd d s) (hd:A.depth+N<=900) (hu:A.units+10*N<=9000) (hN:1<=N) {cl:List (Str×Addr)} (Cc:pV g' env cl cb cd) (hL:L<=200)
  {Q E:ae->ah->Prop}
  (h:∀x t s',Txt x (3*(L+1))->bq W X B s s'->cr W X A l B cb cd d s'->Q (.str x t) s'):
  wpAny W.M A (eval Lu env) Q E s:=by
 refine pB ?_ ?_ ?_ ?_ ?_
 ·kernel_rfl
 ·kernel_rfl
 ·show 1<29;decide
 ·kernel_rfl
 refine lZ (x:=aa ",") (L:=1) T (l0 (by decide+kernel)) λt s₁ ø x₁ T1 pl=> ?_
 refine xN (by decide+kernel) ?_
 refine iZ (W:=W) (iw (aa "join")) A E s₁ (b0 92) [.str (aa ",") t] _ Q rfl (Calls.evalArgs_plain (Calls.spliced_cons ?_))
 refine Lm O hT hmg hcal hK hmgK hcalK V hk hr T1 hd hu hN Cc λD vs n s₂ hD hv htx nX x₂ T2=> ?_
 refine Calls.spliced_nil ⟨T2.R.inv,?_⟩
 refine ay htx λf hf hfb=> ?_
 have hfl:f.length<=3:=by rw[<-hf.len];exact hv
 have rD:Rep W X s₂.heap (.ref D) (.list (f.map .str)):= .list hD rfl rfl nX (by rw[wk];exact hf.reps)
 have jl:=AM L f λx hx=>(hfb x hx).1
 have jm:f.length*(L+1)<=3*(L+1):=Nat.mul_le_mul_right _ hfl
 have hz:ci (aa "join") (an (aa ",")) [.list (f.map .str)]=some (.str (aG [44] f)):=by exact Ls f (by rw[gn];exact ao (ey (ao jl (ao jm (lf 3 (fJ hL)))) 1) (bz rfl))
 refine xO (W:=W) (X:=X) T2.R.inv T2.R.xlt hz (.cons rD .nil) λw s₃ a₃ r₃=> ?_
 have x₃:=x₁.trans (x₂.trans (a₃.stepB T2.bx))
 have jo:=AN f λx hx=>(hfb x hx).2
 generalize aG [44] f=z at r₃ jl jo
 cases r₃ with
 |str y t' =>exact h y t' s₃ ⟨ao ‹_› ‹_›,jo⟩ x₃ (T.step x₃)
end
end
section
structure pY(W:Wd)(fa:Addr)(fd:dv):Prop where
 at_:∃o,W.base.get? fa=some o/\ o.data= .func fd
 body:fd.body= .stmts un
 globals:fd.globals=mainGlobals
 builtins:fd.builtins=builtinsNs
 rec_:W.base.CodeRec fd.code fd.qualname
 kind:fd.scope.kind= .function
 co:fd.scope.isCoroutine=false
 gen:fd.scope.isGenerator=false
 clo:fd.closure=[]
 bind:∀a b,bindArgs fd ⟨[a,b],[]⟩=pure [(aa "box",a),(aa "depth",b)]
 cells:∀n,cellsFrom n fd.scope.names []=[(aa "depth",n+1),(aa "box",n)]
 nbox:fd.scope.names.lookup (aa "box")=some .cell
 ndep:fd.scope.names.lookup (aa "depth")=some .cell
 nkind:fd.scope.names.lookup (aa "kind")=some .local
 ntake:fd.scope.names.lookup (aa "_law_take")=some .globalImplicit
 ntree:fd.scope.names.lookup (aa "_law_tree")=some .globalImplicit
 nnames:fd.scope.names.lookup (aa "_law_names")=some .globalImplicit
 nsubs:fd.scope.names.lookup (aa "_law_subs")=some .globalImplicit
 nstr:fd.scope.names.lookup (aa "str")=some .globalImplicit
 nrange:fd.scope.names.lookup (aa "range")=some .globalImplicit
 comp:g'.names=[(aa ".0", .local),(aa "k", .local),(aa "_law_tree", .globalImplicit),(aa "box", .free),(aa "depth", .free)]
 ckind:g'.kind= .function
section
variable{W:Wd}{B fa fT:Addr}{d:Int}{N L:Nat}
theorem Lx{env:av}{cb cd:Addr}{csc:Scope}(V:fy env cb cd)(hn:csc.names=[(aa ".0", .local),(aa "k", .local),(aa "_law_tree", .globalImplicit),(aa "box", .free),(aa "depth", .free)]) (hk:csc.kind= .function):pV csc env [(aa "depth",cd),(aa "box",cb)] cb cd where
 clos:=by
  have c1:cellOf env (aa "box")=pure cb:=by unfold cellOf;rw[V.cbox]
  have c2:cellOf env (aa "depth")=pure cd:=by unfold cellOf;rw[V.cdep]
  unfold closureFor
  rw[hn]
  simp only[List.forIn_cons,List.forIn_nil,c1,c2,pure_bind,bind_assoc]
  rfl
 kind:=hk
 names:=by rw[hn];intro y hy e;simp only[bR,eQ,or_false]at hy;rcases hy with rfl|rfl|rfl|rfl|rfl<;>first|(cases e;done)|exact beq_iff_eq.mp (by decide+kernel)
 nocell:=by rw[hn];intro y hy e;simp only[bR,eQ,or_false]at hy;rcases hy with rfl|rfl|rfl|rfl|rfl<;>cases e
 k:=by rw[hn];decide+kernel
 env:=λCm=>by
  have hs:(relabel csc env).names=[(aa ".0", .local),(aa "k", .local),(aa "_law_tree", .globalImplicit),(aa "box", .cell),(aa "depth", .cell)]:=by
   unfold relabel
   rw[hn]
   simp only[fe,rm,V.kind,V.kbox,V.kdep]
   rfl
  refine⟨hk,V.globals,V.builtins,?_,?_,?_,?_,?_⟩
  ·show(relabel csc env).names.lookup _=_;rw[hs];decide+kernel
  ·show(relabel csc env).names.lookup _=_;rw[hs];decide+kernel
  ·show([(aa "depth",cd),(aa "box",cb)]:List (Str×Addr)).lookup _=_
   rw[ca,show(aa "box" ==aa "depth")=false by decide+kernel,ca,beq_self_eq_true]
  ·show([(aa "depth",cd),(aa "box",cb)]:List (Str×Addr)).lookup _=_
   rw[ca,beq_self_eq_true]
  ·show(relabel csc env).names.lookup _=_;rw[hs];decide+kernel
structure uq(W:Wd)(B fa fT:Addr)(N:Nat)(nm sb:List (List Nat))(fN fS:ae):Prop where
 O:aZ W
 take:gt W B fT
 mgT:W.mg (aa "_law_take")=some (.ref fT)
 calT:b7 W (.ref fT)
 mgA:W.mg (aa "_law_tree")=some (.ref fa)
 calA:b7 W (.ref fa)
 names:nz W N (aa "_law_names") fN nm 7
 subs:nz W N (aa "_law_subs") fS sb 6
 l1:nm.length=11
 l2:sb.length=12
 N1:1<=N
 hB:lX W B
structure gH(W:Wd)(X:Addr->Prop)(B Lc:Addr)(s s':ah):Prop where
 inv:Inv W s'
 keep:∀b o,¬X b->b≠B->s.heap.get? b=some o->s'.heap.get? b=some o
 ns:∀L m,L≠Lc->s.heap.Ns L m->s'.heap.Ns L m
 gens:cY s.gens s'.gens
 os:s'.os=s.os
 drawn:s'.drawn=s.drawn
 live:∀b o,s.heap.get? b=some o->∃o',s'.heap.get? b=some o'
 solid:∀b o,b≠B->dh o->s.heap.get? b=some o->s'.heap.get? b=some o
 box:dM B s'.heap
theorem bq.l{X:Addr->Prop}{Lc:Addr}{s s':ah}(x:bq W X B s s'):gH W X B Lc s s':=⟨x.inv,x.keep,λL m ø e=>x.ns L m e,x.gens,x.os,x.drawn,x.live,x.solid,x.box⟩
theorem gH.trans{X:Addr->Prop}{Lc:Addr}{s s' s'':ah}(x:gH W X B Lc s s')(y:gH W X B Lc s' s''):gH W X B Lc s s'':=
 ⟨y.inv,λb o n q e=>y.keep b o n q (x.keep b o n q e),λL m n e=>y.ns L m n (x.ns L m n e),x.gens.trans y.gens,y.os.trans x.os,y.drawn.trans x.drawn,λb o e=>by obtain⟨o',e'⟩:=x.live b o e;exact y.live b o' e',λb o n t e=>y.solid b o n t (x.solid b o n t e),y.box⟩
theorem Ly{X:Addr->Prop}{A:aA}{l:List av}{cb cd Lc:Addr}{s:ah}{env:av}{m:Str->Option ae}(V:fy env cb cd)(T:cr W X A l B cb cd d s)(hL:env.locals=Lc)(hn:s.heap.Ns Lc m)(hX:X Lc){x:Str}(hx:env.kindOf x=some .local){v:ae}{Q:Unit->ah->Prop}{E:ae->ah->Prop}
  (h:∀s',gH W X B Lc s s'->cr W X A l B cb cd d s'->s'.heap.Ns Lc (λy=>if y=x then some v else m y)->Q () s'):wpAny W.M A (storeName env x v) Q E s:=by
 refine lm hx (by rw[hL];exact hn) (λh' hn' hs=> ?_) (by rw[V.kind];rfl)
 rw[hL]at hn' hs
 have up:∀b o,b≠Lc->s.heap.get? b=some o->h'.get? b=some o:=λb o hb e=>(hs.2 b hb).trans e
 have neB:B≠Lc:=λq=>by
  refine dc T.bx λvs n ns e ø=> ?_
  refine gC hn λo es ep e' d' ø=> ?_
  rw[q,e']at e;obtain rfl:=aq e;cases d'
 have ne:∀{b:Addr} {o:Obj},(∀es ep,o.data≠ .dict es ep)->s.heap.get? b=some o->b≠Lc:=λ{b o} hd e q=>by
  refine gC hn λo' es ep e' d' ø=> ?_
  rw[q,e']at e;obtain rfl:=aq e;exact hd _ _ d'
 have live:∀b o,s.heap.get? b=some o->∃o',h'.get? b=some o':=λb o e=>by
  by_cases q:b=Lc
  ·subst q
   refine dc hn' λo' ø ø e' ø=> ?_
   exact⟨o',e'⟩
  ·exact⟨o,up b o q e⟩
 have I':Inv W {s with heap:=h',toks:=s.toks+1}:=by
  refine⟨λb o e=>up b o (λq=>T.R.xbase b o e (q▸hX)) (T.R.inv.stays b o e),λq hq=> ?_,T.R.inv.gens⟩
  refine ay (T.R.inv.tabs q hq) λps h1 h2=> ?_
  refine⟨ps,?_,?_⟩
  ·refine lw h1 λo vs file tf flags tg inF text tt op x1 r1 r2 r3 r4 r5 r6 x2 x3 r=> ?_
   exact⟨o,vs,file,tf,flags,tg,inF,text,tt,op,up _ _ (ne (by rw[r1];intro ø ø q;cases q) x1) x1,r1,r2,r3,r4,r5,r6,up _ _ (ne (by rw[x3];intro ø ø q;cases q) x2) x2,x3,r⟩
  ·refine xA h2 λzn1 t=> ?_
   refine mJ zn1 λo vs x1 x2 x3 r=> ?_
   exact⟨⟨o,vs,up _ _ (ne (by rw[x3];intro ø ø q;cases q) x1) x1,x2,x3,r⟩,up _ _ (ne (by intro ø ø q;cases q) t) t⟩
 have bx':dM B h':=by obtain⟨vs,n,ns,e,r⟩:=T.bx;exact⟨vs,n,ns,up _ _ neB e,r⟩
 have xL:gH W X B Lc s {s with heap:=h',toks:=s.toks+1}:=⟨I',λb o nx ø e=>up b o (λq=>nx (q▸hX)) e,λL m' nL e=>e.at' λo eo=>up L o nL eo,cY.refl _,rfl,rfl,live,λb o ø so e=>up b o (ne so.2 e) e,bx'⟩
 have cell:∀{c:Addr} {v:ae},¬X c->s.heap.IsCell c (some v)->h'.IsCell c (some v):=λ{c v} nc k=>let ⟨o,e,dd⟩:=k;⟨o,up _ _ (λq=>nc (q▸hX)) e,dd⟩
 refine xE T.dep λt ht=> ?_
 refine h _ xL ⟨⟨I',T.R.frames,T.R.guards,T.R.handled,T.R.below.after (s:=s) (s':={s with heap:=h',toks:=s.toks+1}) λL m' e=> ?_,T.R.xtabs,T.R.xbase,λb hb=> ?_⟩,T.XB,bx',cell T.nb T.box,⟨t,cell T.nd ht⟩,T.nb,T.nd⟩ hn'
 ·by_cases q:L=Lc
  ·exact⟨_,q▸hn'⟩
  ·exact⟨m',e.at' λo eo=>up L o q eo⟩
 ·refine xE (T.R.xlt b hb) λo e=> ?_
  exact live b o e
theorem Lz{fd:dv}{nm sb:List (List Nat)}{fN fS:ae}{L':Nat}(F:pY W fa fd)(Z:uq W B fa fT N nm sb fN fS)
  (hb:∀(A:aA) (l:List av) (s:ah) (X:Addr->Prop) (env:av) (cb cd Lc:Addr) (m:Str->Option ae),fy env cb cd->cr W X A l B cb cd d s->env.locals=Lc->s.heap.Ns Lc m->X Lc->(∀x k,fd.scope.names.lookup x=some k->env.kindOf x=some k)->A.depth+N<=900->A.units+10*N<=9000->∀(Q:cJ->ah->Prop) (E:ae->ah->Prop),
   (∀x t s',Txt x L'->gH W X B Lc s s'->Q (.ret (.str x t)) s')->wpAny W.M A (execs un env) Q E s):gc W B fa (N+1) L' d:=λA l s X td R hX bx hd hu Q E h=>by
 have hrl:(900:Nat)<recursionLimit:=by decide+kernel
 have I:=R.inv
 refine ay F.at_ λo ho hod=> ?_
 have cl:=F.cells (s.heap.objs.size+1)
 refine jp (codeAny_call_cells (binds:=[(aa "box", .ref B),(aa "depth", .int d td)]) (dt (show A.depth<=900 by exact ao (bk _ _) ‹_›) hrl) (I.stays _ _ ho) hod (I.nolimit Z.O) (F.rec_.keeps I.stays) F.body (F.bind _ _) F.clo (λx hx=> ?_) (λs₁ x₁=> ?_) F.co F.gen F.kind)
 ·simp only[bR,eQ,or_false]at hx
  rcases hx with rfl|rfl
  ·refine .inr ⟨F.nbox,?_⟩
   rw[cl,ca,show(aa "box" ==aa "depth")=false by decide+kernel,ca,beq_self_eq_true];rfl
  ·refine .inr ⟨F.ndep,?_⟩
   rw[cl,ca,beq_self_eq_true];rfl
 ·have hkind:∀x k,fd.scope.names.lookup x=some k->(callEnvC fd s.heap.objs.size fa).kindOf x=some k:=λx k e=>e
  have hcells:(callEnvC fd s.heap.objs.size fa).cells=[(aa "depth",s.heap.objs.size+1+1),(aa "box",s.heap.objs.size+1)]:=cl
  have cbx:(callEnvC fd s.heap.objs.size fa).cells.lookup (aa "box")=some (s.heap.objs.size+1):=by
   rw[hcells,ca,show(aa "box" ==aa "depth")=false by decide+kernel,ca,beq_self_eq_true]
  have cdp:(callEnvC fd s.heap.objs.size fa).cells.lookup (aa "depth")=some (s.heap.objs.size+1+1):=by
   rw[hcells,ca,beq_self_eq_true]
  have V:fy (callEnvC fd s.heap.objs.size fa) (s.heap.objs.size+1) (s.heap.objs.size+1+1):=⟨F.kind,F.globals,F.builtins,F.nbox,F.ndep,cbx,cdp,F.ntree⟩
  have e1:=x₁.cell _ _ cbx
  have e2:=x₁.cell _ _ cdp
  have nl:∀x,fd.scope.names.lookup x=some .cell->¬(callEnvC fd s.heap.objs.size fa).kindOf x=some .local:=λx e q=>by rw[hkind x _ e]at q;cases aq q
  have b1:bindC (callEnvC fd s.heap.objs.size fa).kindOf [(aa "box", .ref B),(aa "depth", .int d td)] (λø=>none) (aa "box")=some (.ref B):=by
   unfold bindC;rw[if_neg (nl _ F.nbox)];unfold bindC;rw[if_neg (nl _ F.ndep)];unfold bindC
   show(if aa "box" =aa "depth" then _ else if aa "box" =aa "box" then _ else _)=_
   rw[if_neg (by decide+kernel),if_pos rfl]
  have b2:bindC (callEnvC fd s.heap.objs.size fa).kindOf [(aa "box", .ref B),(aa "depth", .int d td)] (λø=>none) (aa "depth")=some (.int d td):=by
   unfold bindC;rw[if_neg (nl _ F.nbox)];unfold bindC;rw[if_neg (nl _ F.ndep)];unfold bindC
   show(if aa "depth" =aa "depth" then _ else _)=_
   rw[if_pos rfl]
  rw[b1]at e1
  rw[b2]at e2
  refine dR x₁.done λh₁ tk1 zq2 keep=> ?_;subst zq2
  have a₁:After W X s {s with heap:=h₁,toks:=tk1}:=After.of_keeps I keep
  have nC:s.heap.get? s.heap.objs.size=none:=dP (bO _)
  have nX:∀b,s.heap.objs.size<=b->¬X b:=λb hb hx=>by
   refine xE (R.xlt b hx) λo e=> ?_
   rw[dP hb]at e;exact al e
  have hns:=x₁.toInCall.ns
  have hloc:(callEnvC fd s.heap.objs.size fa).locals=s.heap.objs.size:=rfl
  rw[hloc]at hns
  have R':Ready W (λb=>X b \/b=s.heap.objs.size) (A.deeper (callEnvC fd s.heap.objs.size fa)) (callEnvC fd s.heap.objs.size fa::l) {s with heap:=h₁,toks:=tk1}:=by
   refine⟨a₁.inv,?_,R.guards,R.handled,?_,λq hq=> .inl (R.xtabs q hq),?_,?_⟩
   ·show A.frames.map _=_
    rw[R.frames];rfl
   ·intro e he
    rcases bR.mp he with q|q
    ·subst q
     refine⟨by show fd.scope.kind≠_;rw[F.kind];decide,s.heap.objs.size,_,rfl,?_,hns, .inr rfl⟩
     cases z:W.base.get? s.heap.objs.size with
     |none=>rfl
     |some o' =>have:=I.stays _ _ z;rw[nC]at this;exact al this
    ·refine gW (R.below e q) λk L0 m f1 f2 f3 f4=> ?_
     exact⟨k,L0,m,f1,f2,f3.keeps keep, .inl f4⟩
   ·intro b o' e q
    rcases q with q|q
    ·exact R.xbase b o' e q
    ·have:=I.stays _ _ e;rw[q,nC]at this;exact al this
   ·intro b hb
    rcases hb with q|q
    ·refine xE (R.xlt b q) λo' e=> ?_
     exact⟨o',keep _ _ e⟩
    ·subst q
     refine dc hns λo' ø ø e ø=> ?_
     exact⟨o',e⟩
  have T:cr W (λb=>X b \/b=s.heap.objs.size) (A.deeper (callEnvC fd s.heap.objs.size fa)) (callEnvC fd s.heap.objs.size fa::l) B (s.heap.objs.size+1) (s.heap.objs.size+1+1) d {s with heap:=h₁,toks:=tk1}:=
   ⟨R', .inl hX,(a₁.stepB bx).box,e1,⟨td,e2⟩,λq=>q.elim (nX _ (mG _)) (λq=>by exact absurd q (mB (gh _))),λq=>q.elim (nX _ (Dh (mG _))) λq=>by exact absurd q (mB (lg (gh _)))⟩
  refine hb _ _ _ _ _ _ _ _ _ V T rfl hns (.inr rfl) hkind (by show A.depth+1+N<=900;exact lz ‹_› (by rfl)) (by show A.units+3+10*N<=9000;exact lz ‹_› (by rfl)) _ _ λx t s' ok y=> ?_
  refine h x t s' ?_ ok
  exact⟨y.inv,λb o nx nb e=>y.keep b o (λq=>q.elim nx λq=>by rw[q,nC]at e;exact al e) nb (keep b o e),λL0 m e=>y.ns L0 m (λq=>by obtain⟨o',_,_,e',_⟩:=e;rw[show L0=s.heap.objs.size from q,nC]at e';cases e') (e.keeps keep),y.gens,y.os,y.drawn,λb o e=>y.live b o (keep b o e),λb o nb so e=>y.solid b o nb so (keep b o e),y.box⟩
end
end
section
section
variable{W:Wd}{B fa fT:Addr}{d:Int}{N L:Nat}
theorem Txt.le{x:Str}{L M:Nat}(h:Txt x L)(k:L<=M):Txt x M:=⟨ao h.1 k,h.2⟩
set_option tactic.hygienic true in
theorem ur{fd:dv}{nm sb:List (List Nat)}{fN fS:ae}{L':Nat}(F:pY W fa fd)(Z:uq W B fa fT N nm sb fN fS)
  (hlow:d<2->gc W B fa N L (d+1)) (hL:L<=200) (hL':13<=L'/\ L+4<=L'/\ 3*(L+1)+2<=L'):gc W B fa (N+1) L' d:=
 Lz F Z λA l s X env cb cd Lc m V T hLc hns hX hkind hd hu Q E h=>by
 have O:=Z.O
 have hN:=Z.N1
 refine bL hL' λb1 b2 b3=> ?_
 have ktake:=hkind _ _ F.ntake
 have kkind:=hkind _ _ F.nkind
 refine bT (ik (hs:=rfl) (fP (AH O Z.take Z.mgT Z.calT V ktake T (ao (bk _ _) ‹_›) (jr ‹_› ‹_› (by rfl)) λi t s₁ x₁ T1=> ?_)))
 have dvd:∀{Q:ae->ah->Prop} {E:ae->ah->Prop},(∀k t s',((d<2/\ k=6) \/(¬d<2/\ k=3))->bq W X B s₁ s'->cr W X A l B cb cd d s'->Q (.int k t) s')->
   wpAny W.M A (eval (.IfExp (.Compare (.Name (aa "depth") (b0 4)) [.Lt] [.Constant (.int 2) 0 (b0 5)] (b0 6)) (.Constant (.int 6) 0 (b0 7)) (.Constant (.int 3) 0 (b0 8)) (b0 9)) env) Q E s₁:=λ{Q E} hQ=>by
  refine wpAny_IfExp (oK (hm:=rfl) (AG V T1 λtd=>d0 (ky (W:=W) (X:=λø=>False) (op:= .Lt) (a:= .int d) (b:= .int 2) (r:=decide (d<2)) rfl (.int d td) (.int 2 _) (ao (bk _ _) ‹_›) (ix ?_))))
  have x:=(After.tok (X:=X) (tk:=s₁.toks+1+1) T1.R.inv).stepB T1.bx
  by_cases hd2:d<2
  ·rw[decide_eq_true hd2,if_pos rfl]
   exact d0 (hQ _ _ _ (.inl ⟨hd2,rfl⟩) x (T1.step x))
  ·rw[decide_eq_false hd2,if_neg (by decide)]
   exact d0 (hQ _ _ _ (.inr ⟨hd2,rfl⟩) x (T1.step x))
 refine dvd λk tk s₂ hk x₂ T2=> ?_
 have hz:bH .Mod (.int i) (.int k)=some (.int (i%k)):=by
  show(if 0<k/\ k<=1000 then some (PV.int (i%k))else none)=_
  exact if_pos (by rcases hk with ⟨_,rfl⟩|⟨_,rfl⟩<;>decide)
 refine jC (W:=W) (X:=X) (op:= .Mod) T2.R.inv T2.R.xlt hz (.int i t) (.int k tk) λw s₃ a₃ r₃=> ?_
 cases r₃
 rename_i t₃
 have x₃:=x₁.trans (x₂.trans (a₃.stepB T2.bx))
 refine Ly V (T.step x₃) hLc (x₃.ns _ _ hns) hX kkind λs₄ y₄ T4 hns4=> ?_
 have xl4:gH W X B Lc s s₄:=x₃.l.trans y₄
 have hm4:(λy=>if y=aa "kind" then some (ae.int (i%k) t₃)else m y) (aa "kind")=some (.int (i%k) t₃):=if_pos rfl
 generalize (λy=>if y=aa "kind" then some (ae.int (i%k) t₃)else m y)=m₄ at hns4 hm4
 have tokS:∀{s:ah} {tk:Nat},cr W X A l B cb cd d s->bq W X B s {s with toks:=tk}:=λ{s tk} T=>(After.tok (X:=X) (tk:=tk) T.R.inv).stepB T.bx
 refine bT (jq (uo (f:=λi j=>decide (i<j)) (λø ø=>rfl) V hLc kkind hns4 hm4 (ao (bk _ _) ‹_›) ?_))
 have T5:=T4.step (tokS (tk:=s₄.toks+1) T4)
 have xl5:gH W X B Lc s {s₄ with toks:=s₄.toks+1}:=xl4.trans (tokS T4).l
 by_cases h3:i%k<3
 ·rw[decide_eq_true h3,if_pos rfl]
  refine bT (il (fP ?_))
  refine AI O Z.take Z.mgT Z.calT V ktake T5 hd hu hN Z.names (hkind _ _ F.nnames) (by decide+kernel) (by rw[Z.l1];rfl) λx tx s₆ hx x₆ T6=> ?_
  refine AI O Z.take Z.mgT Z.calT V ktake T6 hd hu hN Z.subs (hkind _ _ F.nsubs) (by decide+kernel) (by rw[Z.l2];rfl) λz tz s₇ hz x₇ T₇=> ?_
  refine kK (by decide) T₇ hx hz λr tr s₈ hr x₈ T8=> ?_
  exact h r tr s₈ (hr.le b1) (xl5.trans (x₆.trans (x₇.trans x₈)).l)
 ·rw[decide_eq_false h3,if_neg (by decide)]
  have hd2:d<2:=by
   rcases hk with ⟨q,_⟩|⟨_,rfl⟩
   ·exact q
   ·exact absurd (wm i (by decide)) h3
  have TR:=hlow hd2
  refine dQ (bT (jq (uo (f:=λi j=>i==j) (λø ø=>rfl) V hLc kkind (s:={s₄ with toks:=s₄.toks+1}) hns4 hm4 (ao (bk _ _) ‹_›) ?_)))
  have T6:=T5.step (tokS (tk:=s₄.toks+1+1) T5)
  have xl6:gH W X B Lc s {s₄ with toks:=s₄.toks+1+1}:=xl5.trans (tokS T5).l
  by_cases h4:i%k=3
  ·rw[show(i%k==3)=true by rw[h4];rfl,if_pos rfl]
   refine bT (il (fP (fP (fP ?_))))
   refine um O TR Z.mgA Z.calA V T6 hd hu λx tx s₇ hx x₇ T₇=> ?_
   refine lZ (x:=aa "[") (L:=1) T₇ (l0 (by decide+kernel)) λt₈ s₈ h₈ x₈ T8=> ?_
   refine kK (lA ‹_› (by rfl)) T8 hx h₈ λz₉ t₉ s₉ h₉ x₉ T9=> ?_
   refine Lj O Z.take Z.mgT Z.calT V ktake (hkind _ _ F.nstr) T9 (ao (bk _ _) ‹_›) (jr ‹_› ‹_› (by rfl)) λy ty s10 hy x₁₀ T10=> ?_
   refine kK (js (a:=L+1) (k:=2) (fJ hL) (by rfl)) T10 h₉ hy λz11 t11 s11 h₁₁ x₁₁ T11=> ?_
   refine lZ (x:=aa "]") (L:=1) T11 (l0 (by decide+kernel)) λt12 s12 h₁₂ x₁₂ T12=> ?_
   refine kK (js (a:=L+1+2) (k:=1) (q0 hL 3) (by rfl)) T12 h₁₁ h₁₂ λr tr s13 hr x₁₃ T13=> ?_
   exact h r tr s13 (hr.le (by omega)) (xl6.trans (x₇.trans (x₈.trans (x₉.trans (x₁₀.trans (x₁₁.trans (x₁₂.trans x₁₃)))))).l)
  ·rw[show(i%k==3)=false by rw[beq_eq_false_iff_ne];exact h4,if_neg (by decide)]
   refine dQ (bT (jq (uo (f:=λi j=>i==j) (λø ø=>rfl) V hLc kkind (s:={s₄ with toks:=s₄.toks+1+1}) hns4 hm4 (ao (bk _ _) ‹_›) ?_)))
   have T₇:=T6.step (tokS (tk:=s₄.toks+1+1+1) T6)
   have xl7:gH W X B Lc s {s₄ with toks:=s₄.toks+1+1+1}:=xl6.trans (tokS T6).l
   by_cases h5:i%k=4
   ·rw[show(i%k==4)=true by rw[h5];rfl,if_pos rfl]
    refine bT (il (fP ?_))
    refine um O TR Z.mgA Z.calA V T₇ hd hu λx tx s₈ hx x₈ T8=> ?_
    refine lZ (x:=aa "[]") (L:=2) T8 (l0 (by decide+kernel)) λt₉ s₉ h₉ x₉ T9=> ?_
    refine kK (js ‹_› (by rfl)) T9 hx h₉ λr tr s10 hr x₁₀ T10=> ?_
    exact h r tr s10 (hr.le (rN ‹_› (by rfl))) (xl7.trans (x₈.trans (x₉.trans x₁₀)).l)
   ·rw[show(i%k==4)=false by rw[beq_eq_false_iff_ne];exact h5,if_neg (by decide)]
    refine dQ (bT (il (fP (fP ?_))))
    refine lZ (x:=aa "(") (L:=1) T₇ (l0 (by decide+kernel)) λt₈ s₈ h₈ x₈ T8=> ?_
    refine Lw O TR Z.mgA Z.calA Z.take Z.mgT Z.calT V ktake (hkind _ _ F.nrange) T8 hd hu hN (Lx V F.comp F.ckind) hL λx tx s₉ hx x₉ T9=> ?_
    refine kK (mL (k:=1) (lf 3 (fJ hL)) (by rfl)) T9 h₈ hx λz10 t10 s10 h₁₀ x₁₀ T10=> ?_
    refine lZ (x:=aa ")") (L:=1) T10 (l0 (by decide+kernel)) λt11 s11 h₁₁ x₁₁ T11=> ?_
    refine kK (js (a:=1+3*(L+1)) (k:=1) (ey (lf 3 (fJ hL)) 1) (by rfl)) T11 h₁₀ h₁₁ λr tr s12 hr x₁₂ T12=> ?_
    exact h r tr s12 (hr.le (ao (dq (congrArg Nat.succ (om 1 _))) hL'.2.2)) (xl7.trans (x₈.trans (x₉.trans (x₁₀.trans (x₁₁.trans x₁₂)))).l)
theorem LA{fd:dv}{nm sb:List (List Nat)}{fN fS:ae}{n:Nat}(F:pY W fa fd)(Z:∀N,n<=N->uq W B fa fT N nm sb fN fS):gc W B fa (n+3) 137 0/\ gc W B fa (n+2) 44 1:=by
 have t2:gc W B fa (n+1) 13 2:=ur (L:=0) F (Z n (bO _)) (λq=>absurd q (by decide)) (bz (by rfl)) ⟨bz (by rfl),bz (by rfl),bz (by rfl)⟩
 have t1:gc W B fa (n+2) 44 1:=ur (L:=13) F (Z (n+1) (mG n)) (λø=>t2) (bz (by rfl)) ⟨bz (by rfl),bz (by rfl),bz (by rfl)⟩
 exact⟨ur (L:=44) F (Z (n+2) (bk n 2)) (λø=>t1) (bz (by rfl)) ⟨bz (by rfl),bz (by rfl),bz (by rfl)⟩,t1⟩
end
end
section
structure bF(K:Addr->Obj->Prop)(W:Wd)(X:Addr->Prop)(A:aA)(l:List av)(B Lc:Addr)(sc:Scope)(env:av)(os:ii)(s:ah)(ρ:aj):Prop where
 R:Ready W X A l s
 envk:jF false W sc env
 hL:env.locals=Lc
 XL:X Lc
 XB:X B
 bx:dM B s.heap
 os:s.os=os
 kinds:pe sc ρ
 kp:∀b o,K b o->¬X b/\ s.heap.get? b=some o
 loc:∃m,s.heap.Ns Lc m/\ m (aa "box")=some (.ref B)/\ ∀x p,ρ.lookup x=some p->∃v,m x=some v/\ Rep W X s.heap v p
section
variable{K:Addr->Obj->Prop}{W:Wd}{X:Addr->Prop}{A:aA}{l:List av}{B Lc:Addr}{sc:Scope}{env:av}{os:ii}{s s':ah}{ρ:aj}{N:Nat}{E₀:Ev}{fT fa:Addr}
theorem bF.here(T:bF K W X A l B Lc sc env os s ρ):Here false W X A l s sc env ρ:=by
 refine bA T.loc λm h1 ø h3=> ?_
 exact⟨T.R,T.envk,⟨T.hL▸T.XL,m,T.hL▸h1,h3⟩,T.kinds⟩
theorem bF.step(T:bF K W X A l B Lc sc env os s ρ)(x:bq W X B s s'):bF K W X A l B Lc sc env os s' ρ:=by
 refine bA T.loc λm h1 h2 h3=> ?_
 exact⟨T.R.step x,T.envk,T.hL,T.XL,T.XB,x.box,x.os.trans T.os,T.kinds,(λb o k=>⟨(T.kp b o k).1,x.keep b o (T.kp b o k).1 (λq=>(T.kp b o k).1 (q▸T.XB)) (T.kp b o k).2⟩),m,x.ns _ _ h1,h2,λy p e=>let ⟨v,e1,e2⟩:=h3 y p e;⟨v,e1,x.rep T.XB e2⟩⟩
theorem bF.after(T:bF K W X A l B Lc sc env os s ρ)(a:After W X s s'):bF K W X A l B Lc sc env os s' ρ:=T.step (a.stepB T.bx)
theorem bF.sub(T:bF K W X A l B Lc sc env os s ρ){ρ':aj}(h:∀y p,ρ'.lookup y=some p->ρ.lookup y=some p):bF K W X A l B Lc sc env os s ρ':=by
 refine bA T.loc λm h1 h2 h3=> ?_
 exact⟨T.R,T.envk,T.hL,T.XL,T.XB,T.bx,T.os,λy p e=>T.kinds y p (h y p e),T.kp,m,h1,h2,λy p e=>h3 y p (h y p e)⟩
theorem LB(hE:aM false W N E₀)(T:bF K W X A l B Lc sc env os s ρ){e:ai}{p:PV}(he:E₀.ev sc e ρ= .ok p)(hd:A.depth+N<=900)(hu:A.units+10*N<=9000){Q E:ae->ah->Prop}(h:∀v s',bF K W X A l B Lc sc env os s' ρ->Rep W X s'.heap v p->Q v s'):wpAny W.M A (eval e env) Q E s:=by
 refine hE.1 sc e X A l s env ρ T.here (by rw[he];exact λq=>nomatch q) hd hu Q E ⟨λv q s' e1 a r=> ?_,λe' c s' e1 ø=>by rw[he]at e1;cases e1⟩
 rw[he]at e1;obtain rfl:=de e1
 exact h v s' (T.after a) r
theorem PZ(hE:aM false W N E₀)(T:bF K W X A l B Lc sc env os s ρ){e:ai}{b:Bool}(he:E₀.tst sc e ρ= .ok b)(hd:A.depth+N<=900)(hu:A.units+10*N<=9000){Q:Bool->ah->Prop}{E:ae->ah->Prop}(h:∀s',bF K W X A l B Lc sc env os s' ρ->Q b s'):wpAny W.M A (isTrue e env (eval e env)) Q E s:=by
 refine hE.2 sc e X A l s env ρ T.here (by rw[he];exact λq=>nomatch q) hd hu Q E ⟨λv q s' e1 a r=> ?_,λe' c s' e1 ø=>by rw[he]at e1;cases e1⟩
 rw[he]at e1;obtain rfl:=de e1;subst r
 exact h s' (T.after a)
theorem AP(T:bF K W X A l B Lc sc env os s ρ)(hk:sc.names.lookup (aa "box")=some .local) {p:ax} {Q E:ae->ah->Prop} (h:Q (.ref B) s):wpAny W.M A (eval (.Name (aa "box") p) env) Q E s:=by
 refine bA T.loc λm h1 h2 ø=> ?_
 exact dO (dI T.envk.scope (T.envk.names _ _ hk (by simp) (by simp)) (T.hL▸h1) h2 h) (by decide+kernel)
theorem AQ(O:aZ W)(hT:gt W B fT)(hmg:W.mg (aa "_law_take")=some (.ref fT)) (hcal:b7 W (.ref fT)) (hb:sc.names.lookup (aa "box")=some .local) (hk:sc.names.lookup (aa "_law_take")=some .globalImplicit) (T:bF K W X A l B Lc sc env os s ρ) (hd:A.depth<=900) (hu:A.units+10<=9000) {p q r:ax} {Q E:ae->ah->Prop}
  (h:∀i t s',bF K W X A l B Lc sc env os s' ρ->Q (.int i t) s'):wpAny W.M A (eval (eJ p q r) env) Q E s:=by
 refine gA rfl ?_
 rw[dS r (show bv [jk (aa "box") q]=true from rfl)]
 refine jI O T.R.inv T.envk.scope (T.envk.names _ _ hk (by simp) (by simp)) T.envk.globals (by decide+kernel) hmg ?_
 refine hcal A E s r [] _ Q rfl (Calls.evalArgs_plain (Calls.spliced_cons (AP T hb (Calls.spliced_nil ⟨T.R.inv,?_⟩))))
 exact hT A X s T.R.inv T.R.guards hd hu T.bx Q E λi t s' x=>h i t s' (T.step x)
theorem LC(O:aZ W)(hE:aM false W N E₀)(hT:gt W B fT)(hmg:W.mg (aa "_law_take")=some (.ref fT)) (hcal:b7 W (.ref fT)) (hb:sc.names.lookup (aa "box")=some .local) (hk:sc.names.lookup (aa "_law_take")=some .globalImplicit) (T:bF K W X A l B Lc sc env os s ρ) (hd:A.depth+N<=900) (hu:A.units+10*N<=9000) (hN:1<=N)
  {p q r v:ax} {e:ai} {k:Int} (he:E₀.ev sc e ρ= .ok (.int k)) (hk0:0<k/\ k<=1000) {Q E:ae->ah->Prop} (h:∀i t s',0<=i->i<k->bF K W X A l B Lc sc env os s' ρ->Q (.int i t) s'):wpAny W.M A (eval (.BinOp (eJ p q r) .Mod e v) env) Q E s:=by
 refine fP (AQ O hT hmg hcal hb hk T (ao (bk _ _) ‹_›) (jr ‹_› ‹_› (by rfl)) λi t s₁ T1=> ?_)
 refine LB hE T1 he hd hu λw s₂ T2 r₂=> ?_
 refine r₂.intE λø zq=> ?_;subst zq
 have hz:bH .Mod (.int i) (.int k)=some (.int (i%k)):=by
  show(if 0<k/\ k<=1000 then some (PV.int (i%k))else none)=_
  exact if_pos hk0
 refine jC (W:=W) (X:=X) (op:= .Mod) T2.R.inv T2.R.xlt hz (.int i t) (.int k _) λw s₃ a₃ r₃=> ?_
 refine r₃.intE λø zq=> ?_;subst zq
 exact h _ _ _ (Dn _ (vK hk0.1)) (wm _ hk0.1) (T2.after a₃)
theorem kL(T:bF K W X A l B Lc sc env os s ρ){x:Str}(hx:sc.names.lookup x=some .local)(hbx:x≠aa "box") {v:ae} {p:PV} (r:Rep W X s.heap v p) {Q:Unit->ah->Prop} {E:ae->ah->Prop}
  (h:∀s',bF K W X A l B Lc sc env os s' (aP x p ρ)->Q () s'):wpAny W.M A (storeName env x v) Q E s:=by
 refine bA T.loc λm hn hm hv=> ?_
 refine lm (T.envk.names _ _ hx (by simp) (by simp)) (T.hL▸hn) (λh' hn' hs=> ?_) (by rw[T.envk.scope];rfl)
 rw[T.hL]at hn' hs
 have up:∀b o,b≠Lc->s.heap.get? b=some o->h'.get? b=some o:=λb o hb e=>(hs.2 b hb).trans e
 have ne:∀{b:Addr} {o:Obj},(∀es ep,o.data≠ .dict es ep)->s.heap.get? b=some o->b≠Lc:=λ{b o} hd e q=>by
  refine gC hn λo' es ep e' d' ø=> ?_
  rw[q,e']at e;obtain rfl:=aq e;exact hd _ _ d'
 have live:∀b o,s.heap.get? b=some o->∃o',h'.get? b=some o':=λb o e=>by
  by_cases q:b=Lc
  ·subst q
   refine dc hn' λo' ø ø e' ø=> ?_
   exact⟨o',e'⟩
  ·exact⟨o,up b o q e⟩
 have I':Inv W {s with heap:=h',toks:=s.toks+1}:=by
  refine⟨λb o e=>up b o (λq=>T.R.xbase b o e (q▸T.XL)) (T.R.inv.stays b o e),λq hq=> ?_,T.R.inv.gens⟩
  refine ay (T.R.inv.tabs q hq) λps h1 h2=> ?_
  refine⟨ps,?_,?_⟩
  ·refine lw h1 λo vs file tf flags tg inF text tt op x1 r1 r2 r3 r4 r5 r6 x2 x3 r=> ?_
   exact⟨o,vs,file,tf,flags,tg,inF,text,tt,op,up _ _ (ne (by rw[r1];intro ø ø q;cases q) x1) x1,r1,r2,r3,r4,r5,r6,up _ _ (ne (by rw[x3];intro ø ø q;cases q) x2) x2,x3,r⟩
  ·refine xA h2 λzn1 t=> ?_
   refine mJ zn1 λo vs x1 x2 x3 r=> ?_
   exact⟨⟨o,vs,up _ _ (ne (by rw[x3];intro ø ø q;cases q) x1) x1,x2,x3,r⟩,up _ _ (ne (by intro ø ø q;cases q) t) t⟩
 have bx':dM B h':=by obtain⟨vs,n,ns,e,r⟩:=T.bx;exact⟨vs,n,ns,up _ _ (ne (by intro ø ø q;cases q) e) e,r⟩
 have rp:∀{v:ae} {p:PV},Rep W X s.heap v p->Rep W X h' v p:=λr=>r.mono (λb o nx e=>up b o (λq=>nx (q▸T.XL)) e) λø ø ø n=>n
 refine h _ ⟨⟨I',T.R.frames,T.R.guards,T.R.handled,T.R.below.after (s:=s) (s':={s with heap:=h',toks:=s.toks+1}) λL m' e=> ?_,T.R.xtabs,T.R.xbase,λb hb=> ?_⟩,T.envk,T.hL,T.XL,T.XB,bx',T.os,λy q e=> ?_,(λb o k=>⟨(T.kp b o k).1,up b o (λq=>(T.kp b o k).1 (q▸T.XL)) (T.kp b o k).2⟩),_,hn',?_,λy q e=> ?_⟩
 ·by_cases q:L=Lc
  ·exact⟨_,q▸hn'⟩
  ·exact⟨m',e.at' λo eo=>up L o q eo⟩
 ·refine xE (T.R.xlt b hb) λo e=> ?_
  exact live b o e
 ·rw[f9]at e
  by_cases q':y=x
  ·rw[q'];exact hx
  ·rw[if_neg q']at e;exact T.kinds y q e
 ·rw[if_neg (cH hbx)];exact hm
 ·rw[f9]at e
  by_cases q':y=x
  ·rw[if_pos q']at e;obtain rfl:=aq e
   exact⟨v,if_pos q',rp r⟩
  ·rw[if_neg q']at e
   refine ay (hv y q e) λw e1 e2=> ?_
   exact⟨w,(if_neg q').trans e1,rp e2⟩
noncomputable def fz(ρ:aj):Prop:=∀x p,ρ.lookup x=some p->(∃y,p= .str y) \/∃i,p= .int i
theorem LD{h h':Heap}{v:ae}{p:PV}(f:(∃y,p= .str y) \/∃i,p= .int i)(r:Rep W X h v p):Rep W X h' v p:=by
 rcases f with ⟨y,rfl⟩|⟨i,rfl⟩
 ·refine r.strE λø ø zq zr=> ?_;subst zq zr;exact .str _ _
 ·refine r.intE λø zq=> ?_;subst zq;exact .int _ _
theorem bF.chg{K':Addr->Obj->Prop}{I₀:Addr}{oI:Obj}{h':Heap}{tk:Nat}(T:bF K W X A l B Lc sc env os s ρ)(fl:fz ρ)(hb:W.base.get? I₀=none)(nX:¬X I₀)(eI:s.heap.get? I₀=some oI)(hc:oI.cls= .type "range_iterator") (ext:eP I₀ s.heap h') (hK:∀b o,K' b o->b=I₀/\ h'.get? b=some o):
  bF K' W X A l B Lc sc env os {s with heap:=h',toks:=tk} ρ:=by
 refine bA T.loc λm h1 h2 h3=> ?_
 have nL:Lc≠I₀:=λq=>nX (q▸T.XL)
 have I':Inv W {s with heap:=h',toks:=tk}:=by
  refine⟨λb o e=>ext b o (λq=>by rw[q,hb]at e;exact al e) (T.R.inv.stays b o e),λq hq=> ?_,T.R.inv.gens⟩
  refine ay (T.R.inv.tabs q hq) λps k1 k2=> ?_
  have nP:q.2≠I₀:=λz=>nX (z▸T.R.xtabs q hq)
  have nc:q.1≠I₀:=λz=>by
   refine xA k2 λzn2 ø=> ?_
   refine io zn2 λo vs x1 x2 ø=> ?_
   rw[z,eI]at x1;obtain rfl:=aq x1;rw[hc]at x2;exact absurd (rC.inj x2) (by decide)
  refine⟨ps,?_,k2.extBut ext nc nP⟩
  refine lw k1 λo vs file tf flags tg inF text tt op x1 r1 r2 r3 r4 r5 r6 x2 x3 r=> ?_
  exact⟨o,vs,file,tf,flags,tg,inF,text,tt,op,ext _ _ nc x1,r1,r2,r3,r4,r5,r6,ext _ _ nP x2,x3,r⟩
 have bx':dM B h':=by obtain⟨vs,n,ns,e,r⟩:=T.bx;exact⟨vs,n,ns,ext _ _ (λq=>nX (q▸T.XB)) e,r⟩
 refine⟨⟨I',T.R.frames,T.R.guards,T.R.handled,λe he=> ?_,T.R.xtabs,T.R.xbase,λb hb' => ?_⟩,T.envk,T.hL,T.XL,T.XB,bx',T.os,T.kinds,(λb o k=> ?_),m,h1.at' λo e=>ext Lc o nL e,h2,λy p e=>let ⟨v,e1,e2⟩:=h3 y p e;⟨v,e1,LD (fl y p e) e2⟩⟩
 ·refine gW (T.R.below e he) λk L m' e1 e2 e3 e4=> ?_
  exact⟨k,L,m',e1,e2,e3.at' λo e=>ext L o (λq=>nX (q▸e4)) e,e4⟩
 ·refine xE (T.R.xlt b hb') λo e=> ?_
  exact⟨o,ext b o (λq=>nX (q▸hb')) e⟩
 ·refine xA (hK b o k) λzq0 e=> ?_;subst zq0
  exact⟨nX,e⟩
theorem bF.forget{K':Addr->Obj->Prop}(T:bF K W X A l B Lc sc env os s ρ)(h:∀b o,K' b o->K b o):bF K' W X A l B Lc sc env os s ρ:=⟨T.R,T.envk,T.hL,T.XL,T.XB,T.bx,T.os,T.kinds,λb o k=>T.kp b o (h b o k),T.loc⟩
end
end
section
structure us where
 t5:ai
 b5:List aC
 t6:ai
 b6:List aC
 ep:ai
 x1:ai
 x2:ai
 x3:ai
 e8:ai
 p:Nat->ax
noncomputable abbrev AR(P:us):List aC:=
     [.Assign [.Name (aa "place") (P.p 39)] (.BinOp (eJ (P.p 40) (P.p 41) (P.p 42)) .Mod P.ep (P.p 43)) (P.p 44),
   .Assign [.Name (aa "mark") (P.p 45)] (.BinOp (eJ (P.p 46) (P.p 47) (P.p 48)) .Mod (.Constant (.int 16) 0 (P.p 49)) (P.p 50)) (P.p 51),
   .Assign [.Name (aa "text") (P.p 52)] (.IfExp P.x1 P.x2 P.x3 (P.p 53)) (P.p 54)]
noncomputable abbrev ut(P:us):List aC:=
 [.Assign [.Name (aa "box") (P.p 0)] (.Call (.Name (aa "list") (P.p 1)) [.Subscript (.Name (aa "script") (P.p 2)) (.Slice none (some (.Constant (.int 22) 0 (P.p 3))) none (P.p 4)) (P.p 5)] [] (P.p 6)) (P.p 7),
   .Assign [.Name (aa "turns") (P.p 8)] (.BinOp (eJ (P.p 9) (P.p 10) (P.p 11)) .Mod (.Constant (.int 3) 0 (P.p 12)) (P.p 13)) (P.p 14),
   .Assign [.Name (aa "text") (P.p 15)] (.Subscript (.Call (.Name (aa "_law_tree") (P.p 16)) [.Name (aa "box") (P.p 17), .Constant (.int 0) 0 (P.p 18)] [] (P.p 19)) (.Slice none (some (.Constant (.int 40) 0 (P.p 20))) none (P.p 21)) (P.p 22)) (P.p 23),
   .Assign [.Name (aa "other") (P.p 24)] (.Subscript (.Call (.Name (aa "_law_tree") (P.p 25)) [.Name (aa "box") (P.p 26), .Constant (.int 1) 0 (P.p 27)] [] (P.p 28)) (.Slice none (some (.Constant (.int 20) 0 (P.p 29))) none (P.p 30)) (P.p 31)) (P.p 32),
   .If P.t5 P.b5 [] (P.p 33), .If P.t6 P.b6 [] (P.p 34),
   .For (.Name (aa "k") (P.p 35)) (.Call (.Name (aa "range") (P.p 36)) [.Name (aa "turns") (P.p 37)] [] (P.p 38))
     (AR P) [] (P.p 55),
   .Return (some P.e8) (P.p 56)]
noncomputable def dF(x:List Nat)(L:Nat):Prop:=x.length<=L/\ ∀c∈x,c<1114112
noncomputable def sT:Str:=aa "text"
noncomputable def sO:Str:=aa "other"
noncomputable def kM:Str:=aa "turns"
noncomputable def nG:Str:=aa "place"
noncomputable def AS:Str:=aa "mark"
noncomputable def b8:us:=⟨AB (lW 4),AC (lW 4),AB (lW 5),AC (lW 5),K9 (pS (pU 0)),La (pS (pU 2)),Lb (pS (pU 2)),Ld (pS (pU 2)),Le (lW 7),K7⟩
structure l4(sc:Scope)(E₀:Ev):Prop where
 t5:∀x,dF x 40->E₀.tst sc b8.t5 [(sT, .str x)]= .ok false
 t6:∀x y,dF x 40->dF y 20->E₀.tst sc b8.t6 [(sT, .str x),(sO, .str y)]= .ok false
 ep:∀x,dF x 60->E₀.ev sc b8.ep [(sT, .str x)]= .ok (.int ((x.length:Int)+1))
 c16:∀ρ,E₀.ev sc (.Constant (.int 16) 0 (b8.p 49)) ρ= .ok (.int 16)
 c3:∀ρ,E₀.ev sc (.Constant (.int 3) 0 (b8.p 12)) ρ= .ok (.int 3)
 ifx:∀x (i m:Int) L,dF x L->L<=56->0<=i->i<(x.length:Int)+1->0<=m->m<16->∃z,E₀.ev sc (.IfExp b8.x1 b8.x2 b8.x3 (b8.p 53)) [(sT, .str x),(nG, .int i),(AS, .int m)]= .ok (.str z)/\ dF z (L+4)
 e8:∀(t:Int) x,dF x 60->E₀.ev sc b8.e8 [(kM, .int t),(sT, .str x)]= .ok (.bool true)
structure pZ(W:Wd)(fa:Addr)(fd:dv):Prop where
 D:bw false W fa fd (ut b8) [aa "script"]
 nbox:fd.scope.names.lookup (aa "box")=some .local
 nturns:fd.scope.names.lookup kM=some .local
 ntext:fd.scope.names.lookup sT=some .local
 nother:fd.scope.names.lookup sO=some .local
 nk:fd.scope.names.lookup (aa "k")=some .local
 nplace:fd.scope.names.lookup nG=some .local
 nmark:fd.scope.names.lookup AS=some .local
 nlist:fd.scope.names.lookup (aa "list")=some .globalImplicit
 ntake:fd.scope.names.lookup (aa "_law_take")=some .globalImplicit
 ntree:fd.scope.names.lookup (aa "_law_tree")=some .globalImplicit
 nrange:fd.scope.names.lookup (aa "range")=some .globalImplicit
section
variable{K:Addr->Obj->Prop}{W:Wd}{X:Addr->Prop}{A:aA}{l:List av}{B Lc:Addr}{sc:Scope}{env:av}{os:ii}{s s':ah}{ρ:aj}{N M L:Nat}{E₀:Ev}{fT fA:Addr}{d:Int}
theorem AT(O:aZ W)(hT:gc W B fA N M d)(hmg:W.mg (aa "_law_tree")=some (.ref fA)) (hcal:b7 W (.ref fA)) (hb:sc.names.lookup (aa "box")=some .local) (hk:sc.names.lookup (aa "_law_tree")=some .globalImplicit) (T:bF K W X A l B Lc sc env os s ρ) (hd:A.depth+N<=900) (hu:A.units+10*N<=9000) (hM:M<=1000) {c:Int} (hc:0<=c/\ c<=1000)
  {p1 p2 p3 p4 p5 p6 p7:ax} {Q E:ae->ah->Prop} (h:∀v z s',dF z c.toNat->bF K W X A l B Lc sc env os s' ρ->Rep W X s'.heap v (.str z)->Q v s'):
  wpAny W.M A (eval (.Subscript (.Call (.Name (aa "_law_tree") p1) [.Name (aa "box") p2, .Constant (.int d) 0 p3] [] p4) (.Slice none (some (.Constant (.int c) 0 p5)) none p6) p7) env) Q E s:=by
 have ht:=gn
 refine oM (gA rfl ?_)
 rw[dS p4 (show bv [jk (aa "box") p2, .Constant (.int d) 0 p3]=true from rfl)]
 refine jI O T.R.inv T.envk.scope (T.envk.names _ _ hk (by decide) (by decide)) T.envk.globals (by decide+kernel) hmg ?_
 refine hcal A E s p4 [] _ _ rfl (Calls.evalArgs_plain (Calls.spliced_cons (AP T hb (Calls.spliced_cons (d0 (Calls.spliced_nil ⟨(T.after (After.tok (tk:=s.toks+1) T.R.inv)).R.inv,?_⟩))))))
 have T1:=T.after (After.tok (tk:=s.toks+1) T.R.inv)
 refine hT A l _ X _ T1.R T1.XB T1.bx hd hu _ _ λx t s₂ x₂ hx=> ?_
 have T2:=T1.step x₂
 refine wpAny_Slice (bj (d0 (k:=0) (pos:=p5) (bj (a:=j') ?_)))
 have T3:=T2.after (After.tok (tk:=s₂.toks+1) T2.R.inv)
 have a₄:After W X {s₂ with toks:=s₂.toks+1} {s₂ with heap:=s₂.heap.push {cls:= .type "slice",data:= .fields #[.none, .int c s₂.toks, .none]},toks:=s₂.toks+1}:=After.push T3.R.inv _
 have T4:=T3.after a₄
 have hz:gE (.str (an x)) .none (.int c)=some (.str ((an x).take c.toNat)):=by
  show((gm .none).bind λl=>(gm (.int c)).bind λu=>if(an x).length<=aX then some (PV.str (fV (an x) l u))else none)=_
  have:gm (.int c)=some (some c.toNat):=by show(if 0<=c/\ c<=aX then some (some c.toNat)else none)=_;rw[if_pos ⟨hc.1,jf hc.2 (by decide+kernel)⟩]
  rw[this]
  show(if(an x).length<=aX then some (PV.str (fV (an x) none (some c.toNat)))else none)=_
  rw[if_pos (by have:=hx.1;exact ff ‹_› ‹_› (by rfl))];rfl
 refine xQ (ops:=[.ref s₂.heap.objs.size, .str x t]) T4.R.inv T4.R.xlt hz (.str x t) .none (.int c _) (ee _ rfl) rfl λv s₅ a₅ r₅=> ?_
 refine h v _ s₅ ⟨?_,λk hk=>hx.2 k (wo hk)⟩ (T4.after a₅) r₅
 rw[jj];exact vO ..
end
end
section
theorem l5{ρ:aj}:∀z p,([]:aj).lookup z=some p->ρ.lookup z=some p:=λz p e=>nomatch e
theorem i8{ρ r:aj}{a:Str}{v:PV}(h:ρ.lookup a=some v)(hr:∀z p,r.lookup z=some p->ρ.lookup z=some p):∀z p,((a,v)::r:aj).lookup z=some p->ρ.lookup z=some p:=λz p e=>by
 rw[ca]at e
 cases q:z==a with
 |true=>rw[q]at e;obtain rfl:=aq e;rw[cG q];exact h
 |false=>rw[q]at e;exact hr z p e
theorem l6{ρ:aj}{x:Str}{v:PV}:(aP x v ρ).lookup x=some v:=by rw[f9,if_pos rfl]
theorem hJ{ρ:aj}{x y:Str}{v:PV}{w:PV}(h:y≠x)(e:ρ.lookup y=some w):(aP x v ρ).lookup y=some w:=by rw[f9,if_neg h];exact e
theorem fz.set{ρ:aj}{x:Str}{v:PV}(h:fz ρ)(hv:(∃y,v= .str y) \/∃i,v= .int i):fz (aP x v ρ):=λy p e=>by
 rw[f9]at e
 by_cases q:y=x
 ·rw[if_pos q]at e;obtain rfl:=aq e;exact hv
 ·rw[if_neg q]at e;exact h y p e
theorem dF.mono{x:List Nat}{L L':Nat}(h:dF x L)(hL:L<=L'):dF x L':=⟨ao h.1 hL,h.2⟩
section
variable{K:Addr->Obj->Prop}{W:Wd}{X:Addr->Prop}{A:aA}{l:List av}{B Lc:Addr}{sc:Scope}{env:av}{os:ii}{s s':ah}{ρ ρ':aj}{N:Nat}{E₀:Ev}{fT fa:Addr}
noncomputable abbrev Sub(ρ' ρ:aj):Prop:=∀z p,ρ'.lookup z=some p->ρ.lookup z=some p
theorem uu(hE:aM false W N E₀)(T:bF K W X A l B Lc sc env os s ρ)(hs:Sub ρ' ρ){e:ai}{p:PV}(he:E₀.ev sc e ρ' = .ok p)(hd:A.depth+N<=900)(hu:A.units+10*N<=9000){Q E:ae->ah->Prop}(h:∀v s',bF K W X A l B Lc sc env os s' ρ->Rep W X s'.heap v p->Q v s'):wpAny W.M A (eval e env) Q E s:=by
 refine hE.1 sc e X A l s env ρ' (T.sub hs).here (by rw[he];exact λq=>nomatch q) hd hu Q E ⟨λv q s' e1 a r=> ?_,λe' c s' e1 ø=>by rw[he]at e1;cases e1⟩
 rw[he]at e1;obtain rfl:=de e1
 exact h v s' (T.after a) r
theorem AU(hE:aM false W N E₀)(T:bF K W X A l B Lc sc env os s ρ)(hs:Sub ρ' ρ){e:ai}{b:Bool}(he:E₀.tst sc e ρ' = .ok b)(hd:A.depth+N<=900)(hu:A.units+10*N<=9000){Q:Bool->ah->Prop}{E:ae->ah->Prop}(h:∀s',bF K W X A l B Lc sc env os s' ρ->Q b s'):wpAny W.M A (isTrue e env (eval e env)) Q E s:=by
 refine hE.2 sc e X A l s env ρ' (T.sub hs).here (by rw[he];exact λq=>nomatch q) hd hu Q E ⟨λv q s' e1 a r=> ?_,λe' c s' e1 ø=>by rw[he]at e1;cases e1⟩
 rw[he]at e1;obtain rfl:=de e1;subst r
 exact h s' (T.after a)
theorem AV(O:aZ W)(hE:aM false W N E₀)(hT:gt W B fT)(hmg:W.mg (aa "_law_take")=some (.ref fT)) (hcal:b7 W (.ref fT)) (hb:sc.names.lookup (aa "box")=some .local) (hk:sc.names.lookup (aa "_law_take")=some .globalImplicit) (T:bF K W X A l B Lc sc env os s ρ) (hs:Sub ρ' ρ) (hd:A.depth+N<=900) (hu:A.units+10*N<=9000) (hN:1<=N)
  {p q r v:ax} {e:ai} {k:Int} (he:E₀.ev sc e ρ' = .ok (.int k)) (hk0:0<k/\ k<=1000) {Q E:ae->ah->Prop} (h:∀i t s',0<=i->i<k->bF K W X A l B Lc sc env os s' ρ->Q (.int i t) s'):wpAny W.M A (eval (.BinOp (eJ p q r) .Mod e v) env) Q E s:=by
 refine fP (AQ O hT hmg hcal hb hk T (ao (bk _ _) ‹_›) (jr ‹_› ‹_› (by rfl)) λi t s₁ T1=> ?_)
 refine uu hE T1 hs he hd hu λw s₂ T2 r₂=> ?_
 refine r₂.intE λø zq=> ?_;subst zq
 have hz:bH .Mod (.int i) (.int k)=some (.int (i%k)):=by
  show(if 0<k/\ k<=1000 then some (PV.int (i%k))else none)=_
  exact if_pos hk0
 refine jC (W:=W) (X:=X) (op:= .Mod) T2.R.inv T2.R.xlt hz (.int i t) (.int k _) λw s₃ a₃ r₃=> ?_
 refine r₃.intE λø zq=> ?_;subst zq
 exact h _ _ _ (Dn _ (vK hk0.1)) (wm _ hk0.1) (T2.after a₃)
end
section
variable{W:Wd}{X:Addr->Prop}{A:aA}{l:List av}{N:Nat}{E₀:Ev}{fT fA fa:Addr}{fd:dv}
structure qd(W:Wd)(fT fA:Addr)(N:Nat):Prop where
 O:aZ W
 take:∀B,lX W B->gt W B fT
 tree:∀B,lX W B->gc W B fA N 137 0/\ gc W B fA N 44 1
 mgT:W.mg (aa "_law_take")=some (.ref fT)
 calT:b7 W (.ref fT)
 mgA:W.mg (aa "_law_tree")=some (.ref fA)
 calA:b7 W (.ref fA)
 N1:1<=N
theorem LF{K:Addr->Obj->Prop}{B Lc:Addr}{env:av}{os:ii}{s:ah}{ρ2:aj}{z:List Nat}{tn:Int}{L:Nat}(F:pZ W fa fd)(Z:qd W fT fA N)(hE:aM false W N E₀)(LE:l4 fd.scope E₀)(tk:gt W B fT)(U2:bF K W X A l B Lc fd.scope env os s ρ2)(hd:A.depth+N<=900)(hu:A.units+10*N<=9000)
  (pTu:ρ2.lookup kM=some (.int tn)) (pT:ρ2.lookup sT=some (.str z)) (hz:dF z L) (hL:L<=56) (fl2:fz ρ2) {Q:cJ->ah->Prop} {E:ae->ah->Prop}
  (h:∀s' ρ' z',bF K W X A l B Lc fd.scope env os s' ρ'->ρ'.lookup kM=some (.int tn)->ρ'.lookup sT=some (.str z')->dF z' (L+4)->fz ρ'->Q .next s'):wpAny W.M A (execs (AR b8) env) Q E s:=by
 have hz60:dF z 60:=hz.mono (aV ‹_› (by rfl))
 refine bT (ik (hs:=rfl) (AV Z.O hE tk Z.mgT Z.calT F.nbox F.ntake U2 (i8 pT l5) hd hu Z.N1 (LE.ep z hz60) ⟨Pk (rc _),oj.mpr (ao (fJ hz60.1) (bz rfl))⟩ λip tp s₃ hp0 hp1 U3=> ?_))
 refine kL U3 F.nplace (by decide+kernel) (.int ip tp) λs₄ U4=> ?_
 have fl4:=fz.set (x:=nG) (v:= .int ip) fl2 (.inr ⟨_,rfl⟩)
 have pTu4:=hJ (x:=nG) (v:= .int ip) (by decide+kernel) pTu
 have pT4:=hJ (x:=nG) (v:= .int ip) (by decide+kernel) pT
 refine bT (ik (hs:=rfl) (AV Z.O hE tk Z.mgT Z.calT F.nbox F.ntake U4 l5 hd hu Z.N1 (LE.c16 []) (by decide) λim tm s₅ hm0 hm1 U5=> ?_))
 refine kL U5 F.nmark (by decide+kernel) (.int im tm) λs₆ U6=> ?_
 refine ay (LE.ifx z ip im L hz hL hp0 hp1 hm0 hm1) λz' ez hz' => ?_
 refine bT (ik (hs:=rfl) (uu hE U6 (i8 (hJ (by decide+kernel) pT4) (i8 (hJ (by decide+kernel) l6) (i8 l6 l5))) ez hd hu λvz s₇ U7 rz=> ?_))
 refine kL U7 F.ntext (by decide+kernel) rz λs₈ U8=> ?_
 exact dQ (h s₈ _ z' U8 (hJ (by decide+kernel) (hJ (by decide+kernel) pTu4)) l6 hz' (fz.set (fz.set fl4 (.inr ⟨_,rfl⟩)) (.inl ⟨_,rfl⟩)))
inductive AW(W:Wd)(X:Addr->Prop)(A:aA)(l:List av)(B Lc:Addr)(sc:Scope)(env:av)(os:ii)(I₀:Addr)(tn:Int)(k:Nat)(s':ah):Prop
 |mk (j:Nat) (ρ':aj) (z:List Nat):k=tn.toNat+1-j->j<=tn.toNat->bF (λø ø=>False) W X A l B Lc sc env os s' ρ'->oQ s'.heap I₀ (0+(j:Int)*1) ((tn.toNat:Int)-(j:Int)) 1->ρ'.lookup kM=some (.int tn)->ρ'.lookup sT=some (.str z)->dF z (40+4*j)->fz ρ'->AW W X A l B Lc sc env os I₀ tn k s'
set_option tactic.hygienic true in
theorem LG{B Lc:Addr}{env:av}{os:ii}{s:ah}(F:pZ W fa fd)(Z:qd W fT fA N)(hE:aM false W N E₀)(LE:l4 fd.scope E₀)(hB:lX W B)(T:bF (λø ø=>False) W X A l B Lc fd.scope env os s [])(hh:A.handled=none)(hd:A.depth+N<=900)(hu:A.units+10*N<=9000)
  {Q:cJ->ah->Prop} {E:ae->ah->Prop} (h:∀s',Inv W s'->s'.os=os->Q (.ret (.bool true)) s'):wpAny W.M A (execs (ut b8).tail env) Q E s:=by
 have O:=Z.O
 refine xA (Z.tree B hB) λtr0 tr1=> ?_
 have tk:=Z.take B hB
 have kE:∀x k,fd.scope.names.lookup x=some k->k≠ .cell->k≠ .free->env.kindOf x=some k:=T.envk.names
 refine bT (ik (hs:=rfl) (LC O hE tk Z.mgT Z.calT F.nbox F.ntake T hd hu Z.N1 (LE.c3 _) (by decide) λtn tt s₁ ht0 ht1 T1=> ?_))
 refine kL T1 F.nturns (by decide+kernel) (.int tn tt) λs₂ T2=> ?_
 refine bT (ik (hs:=rfl) (AT O tr0 Z.mgA Z.calA F.nbox F.ntree T2 hd hu (by decide) (by decide) λvx x s₃ hx T3 rx=> ?_))
 refine kL T3 F.ntext (by decide+kernel) rx λs₄ T4=> ?_
 refine bT (ik (hs:=rfl) (AT O tr1 Z.mgA Z.calA F.nbox F.ntree T4 hd hu (by decide) (by decide) λvy y s₅ hy T5 ry=> ?_))
 refine kL T5 F.nother (by decide+kernel) ry λs₆ T6=> ?_
 obtain⟨ρ,hρ,rTu,rT,rO,fl⟩:∃ρ:aj,ρ=aP sO (.str y) (aP sT (.str x) (aP kM (.int tn) []))/\ ρ.lookup kM=some (.int tn)/\ ρ.lookup sT=some (.str x)/\ ρ.lookup sO=some (.str y)/\ fz ρ:=
  ⟨_,rfl,hJ (by decide+kernel) (hJ (by decide+kernel) l6),hJ (by decide+kernel) l6,l6,
   fz.set (fz.set (fz.set (λz p e=>nomatch e) (.inr ⟨_,rfl⟩)) (.inl ⟨_,rfl⟩)) (.inl ⟨_,rfl⟩)⟩
 have T6:bF (λø ø=>False) W X A l B Lc fd.scope env os s₆ ρ:=hρ▸T6
 clear hρ
 refine bT (jq (AU hE T6 (i8 rT l5) (LE.t5 x hx) hd hu λs₇ T₇=> ?_))
 rw[if_neg (by decide)]
 refine dQ (bT (jq (AU hE T₇ (i8 rT (i8 rO l5)) (LE.t6 x y hx hy) hd hu λs₈ T8=> ?_)))
 rw[if_neg (by decide)]
 refine dQ (bT (yU (hs:=by intro ø;rfl) ?_))
 refine gA rfl ?_
 rw[dS (b8.p 38) (show bv [jk (aa "turns") (b8.p 37)]=true from rfl)]
 refine kH O T8.R.inv T8.envk.scope (T8.envk.names _ _ F.nrange (by decide) (by decide)) T8.envk.globals T8.envk.builtins (by decide+kernel) (O.nogl _ (by simp[blt])) ((O.mbv _ (by decide+kernel)).trans (by kernel_rfl:bootBuiltins "range" =some (.type "range"))) ?_
 refine bA T8.loc λm hm ø hv=> ?_
 refine ay (hv _ _ rTu) λvt e1 e2=> ?_
 cases e2
 rename_i tt'
 refine go (W:=W) "range" A E s₈ (b8.p 38) [] _ _ rfl (Calls.evalArgs_plain (Calls.spliced_cons (dO (dI T8.envk.scope (T8.envk.names _ _ F.nturns (by decide) (by decide)) (T8.hL▸hm) e1 (Calls.spliced_nil ⟨T8.R.inv,call_range_1 ?_⟩)) (by decide+kernel))))
 have a₉:After W X s₈ {s₈ with heap:=s₈.heap.push {cls:= .type "range",data:= .fields #[.int 0 s₈.toks, .int tn tt', .int 1 (s₈.toks+1)]},toks:=s₈.toks+1+1}:=After.push T8.R.inv _
 have T9:=T8.after a₉
 obtain⟨s₉,hs9⟩:∃s₉,s₉=({s₈ with heap:=s₈.heap.push {cls:= .type "range",data:= .fields #[.int 0 s₈.toks, .int tn tt', .int 1 (s₈.toks+1)]},toks:=s₈.toks+1+1}:ah):=⟨_,rfl⟩
 have hr9:IsRange s₉.heap s₈.heap.objs.size 0 tn 1 s₈.toks tt' (s₈.toks+1):=by rw[hs9];exact IsRange.new _ _ _ _ _ _ _
 rw[<-hs9]at T9 ⊢
 clear hs9 a₉
 refine wpAny_pyIter_range hr9 (AJ _ (oX ‹_› (by rfl)) (DO ‹_› (by rfl))) ?_
 rw[rangeSize_one]
 have hsz:(if(0:Int)<tn then tn-0 else 0)=tn:=by by_cases q:(0:Int)<tn<;>simp[q]<;>exact D0 ‹_› ‹_›
 rw[hsz]
 obtain⟨I₀,hI0⟩:∃I₀,s₉.heap.objs.size=I₀:=⟨_,rfl⟩
 rw[hI0]
 have nI:s₉.heap.get? I₀=none:=dP (by rw[hI0];exact bO _)
 have xI:¬X I₀:=λhx=>by obtain⟨o,e⟩:=T9.R.xlt _ hx;rw[nI]at e;exact al e
 have bI:W.base.get? I₀=none:=by
  cases q:W.base.get? I₀ with
  |none=>rfl
  |some o=>have:=T9.R.inv.stays _ _ q;rw[nI]at this;exact al this
 have a10:After W X s₉ {s₉ with heap:=s₉.heap.push {cls:= .type "range_iterator",data:= .fields #[rawInt 0,rawInt tn,rawInt 1]}}:=After.push (tk:=s₉.toks) T9.R.inv _
 have hit10:oQ (s₉.heap.push {cls:= .type "range_iterator",data:= .fields #[rawInt 0,rawInt tn,rawInt 1]}) I₀ (0+((0:Nat):Int)*1) (((tn.toNat:Nat):Int)-((0:Nat):Int)) 1:=by
  have e1:((tn.toNat:Nat):Int)-((0:Nat):Int)=tn:=(vG _).trans (rg ht0)
  rw[e1,<-hI0]
  exact ee _ rfl
 have Wk:=Walks.range (prog:=ig) (w:=W.w) hh I₀ 0 1 tn.toNat
 refine⟨AW W X A l B Lc fd.scope env os I₀ tn,⟨_,⟨0,ρ,x,rfl,dZ _,(T9.after a10),hit10,rTu,rT,hx,fl⟩⟩,?_⟩
 intro k s' zn1 E1
 obtain⟨j,ρ',z,rfl,hj,T,hit,qTu,qT,hz,fl'⟩:=zn1
 by_cases hlt:j<tn.toNat
 ·refine Wk.item j s' _ _ hlt hit λv h₁ tk1 hP hit1 k₁=> ?_
  refine xE hP λtj zq1=> ?_;subst zq1
  have ext1:eP I₀ s'.heap h₁:=gD k₁
  have U1:=T.chg (tk:=tk1) (K':=λb o=>b=I₀/\ h₁.get? I₀=some o) fl' bI xI hit rfl ext1 λb o h=>⟨h.1,by rw[h.1];exact h.2⟩
  refine kc (kL U1 F.nk (by decide+kernel) (.int _ tj) λs₂ U2=> ?_)
  refine LF F Z hE LE tk U2 hd hu (hJ (by decide+kernel) qTu) (hJ (by decide+kernel) qT) hz (mL (k:=40) (lf 4 (fM (eN hlt (Dq.mpr (q7 ht1))))) (by rfl)) (fz.set fl' (.inr ⟨_,rfl⟩)) λs₈ ρ8 z' U8 q1 q2 q3 q4=> ?_
  exact⟨tn.toNat+1-(j+1),t8 hlt,j+1,ρ8,z',rfl,hlt,U8.forget λb o q=>q.elim,(U8.kp _ _ ⟨rfl,hit1⟩).2,q1,q2,q3,q4⟩
 ·have:j=tn.toNat:=mP ‹_› ‹_›
  subst this
  refine Wk.done s' _ _ hit λh₁ tk1 k₁=> ?_
  have ext1:eP I₀ s'.heap h₁:=gD k₁
  refine dQ (bT (il (uu hE (T.chg (tk:=tk1) (K':=λø ø=>False) fl' bI xI hit rfl ext1 λb o h=>h.elim) (i8 qTu (i8 qT l5)) (LE.e8 tn z (hz.mono (mL (k:=40) (lf 4 (Dq.mpr (q7 ht1))) (by rfl)))) hd hu λv s₂ U2 rv=> ?_)))
  obtain rfl:=rv.boolI
  exact h _ U2.R.inv U2.os
end
end
section
section
variable{W:Wd}{X:Addr->Prop}{A:aA}{l:List av}{N:Nat}{E₀:Ev}{fT fA fa:Addr}{fd:dv}
theorem LH(F:pZ W fa fd)(Z:qd W fT fA N)(hE:aM false W N E₀)(LE:l4 fd.scope E₀){s:ah}(R:Ready W X A l s){sa:Addr}{vs:List ae}{ns:List Int}(hl:s.heap.IsList sa vs.toArray)(hi:lq vs ns)(hlen:vs.length<=64)(hd:A.depth+N+1<=900)(hu:A.units+10*N+3<=9000)
  {Q E:ae->ah->Prop} (h:∀s',Inv W s'->s'.os=s.os->Q (.bool true) s'):wpAny W.M A (call (.ref fa) [.ref sa]) Q E s:=by
 have O:=Z.O
 have D:=F.D
 have hsl:sizeLine=16777216:=mD
 have hrl:(900:Nat)<recursionLimit:=by decide+kernel
 have I:=R.inv
 refine ay D.at_ λo ho hod=> ?_
 obtain⟨hh,g,dr,tk,os⟩:=s
 have nC:hh.get? hh.objs.size=none:=dP (bO _)
 refine jp (rG (binds:=[(aa "script", .ref sa)]) (dt (show A.depth<=900 by exact DK ‹_› (by rfl)) hrl) (I.stays _ _ ho) hod (I.nolimit O) (D.rec_.keeps I.stays) D.body (D.bind _ [.ref sa] I.stays rfl).of D.nocell (λx hx=>by rw[du]at hx;subst hx;exact D.local_ _ (by simp)) (λh₀ hns keep=> ?_) D.co D.gen D.kind)
 have F0:Fr hh hh.objs.size h₀ (λz=>([(aa "script",rF sa)]:List (Str×ae)).reverse.lookup z):=⟨hns,keep,bO _⟩
 have nXs:∀b,hh.objs.size<=b->¬X b:=λb hb hx=>by
  refine xE (R.xlt b hx) λo e=> ?_
  have:hh.get? b=some o:=e
  rw[dP hb]at this;exact al this
 have bC:∀b,hh.objs.size<=b->W.base.get? b=none:=λb hb=>by
  cases q:W.base.get? b with
  |none=>rfl
  |some o=>have:=I.stays _ _ q;rw[show(ah.heap ⟨hh,g,dr,tk,os⟩)=hh from rfl,dP hb]at this;exact al this
 have I₁:∀{h':Heap} {tk':Nat},(∀b o,hh.get? b=some o->h'.get? b=some o)->Inv W ⟨h',g,dr,tk',os⟩:=λ{h' tk'} k=>(After.of_keeps (X:=X) (s:=⟨hh,g,dr,tk,os⟩) (h':=h') (tk:=tk') I k).inv
 have hscr:(callEnv fd hh.objs.size fa).kindOf (aa "script")=some .local:=D.local_ _ (by simp)
 refine bT (ik (hs:=rfl) (gA rfl ?_))
 rw[dS (b8.p 6) (show bv [ai.Subscript (.Name (aa "script") (b8.p 2)) (.Slice none (some (.Constant (.int 22) 0 (b8.p 3))) none (b8.p 4)) (b8.p 5)]=true from rfl)]
 refine kH O (I₁ keep) D.kind F.nlist D.globals D.builtins (by decide+kernel) (O.nogl _ (by simp[blt])) ((O.mbv _ (by decide+kernel)).trans (by kernel_rfl:bootBuiltins "list" =some (.type "list"))) ?_
 refine go (W:=W) "list" (A.deeper (callEnv fd hh.objs.size fa)) _ _ (b8.p 6) [] _ _ rfl (Calls.evalArgs_plain (Calls.spliced_cons (oM (dO (dI D.kind hscr hns rfl ?_) (by decide+kernel)))))
 refine wpAny_Slice (bj (d0 (k:=0) (pos:=b8.p 3) (bj (a:=j') ?_)))
 have hl0:h₀.IsList sa vs.toArray:=by obtain⟨o1,e1,r1⟩:=hl;exact⟨o1,keep _ _ e1,r1⟩
 have N0:eE hh hh.objs.size h₀ []:=λp hp=>nomatch hp
 refine slice_list (h₀:=hh) (L:=hh.objs.size) (lo:=none) (hi:=some 22) F0 N0 hl0 .none (.int 22 _) ?_ (hsz:=by rw[oJ,hsl];exact aV ‹_› (by rfl))
 intro h1 F1 N1
 dsimp only
 obtain⟨ws,hws⟩:∃ws,ws=(slicePick vs.toArray none (some 22) none).toList:=⟨_,rfl⟩
 have wi:lq ws (ns.take 22):=hws▸slice_ints_uptoW hi (by decide)
 have wl:ws.length<=64:=by
  rw[hws,oC]
  exact ao (slicePick_size_le _ _ _ _) (by rw[oJ];exact hlen)
 have wa:slicePick vs.toArray none (some 22) none=ws.toArray:=by rw[hws]
 rw[wa]at N1
 have hl1:h1.IsList (h₀.objs.size+1) ws.toArray:=⟨_,(N1 _ (.head _)).1,rfl,0,rfl⟩
 refine Calls.spliced_nil ⟨I₁ F1.keep,list_copyK (h₀:=hh) (L:=hh.objs.size) F1 N1 hl1 (λB c h2 F2 N2 hlt=> ?_) (by rw[oJ,hsl];exact aV ‹_› (by rfl))⟩
 have hC2:∃m,h2.Ns hh.objs.size m:=⟨_,F2.ns⟩
 refine lm (s:=⟨h2,g,dr,_,os⟩) (show(callEnv fd hh.objs.size fa).kindOf (aa "box")=some .local from F.nbox) F2.ns (λh3 hn3 hs3=> ?_) (by show(fd.scope.kind== .class||(fd.scope.kind== .module&&_))=false;rw[D.kind];rfl)
 have F3:=F2.set hn3 hs3
 have N3:=N2.set hs3
 have bx:dM B h3:=⟨ws,c,_,(N3 _ (.head _)).1,wi,wl⟩
 have nB:hh.get? B=none:=(N3 _ (.head _)).2.2
 have neB:B≠hh.objs.size:=(N3 _ (.head _)).2.1
 have xB:¬X B:=λhx=>by
  refine xE (R.xlt B hx) λo e=> ?_
  have:hh.get? B=some o:=e
  rw[nB]at this;exact al this
 have bB:W.base.get? B=none:=by
  cases q:W.base.get? B with
  |none=>rfl
  |some o=>have:hh.get? B=some o:=I.stays _ _ q;rw[nB]at this;exact al this
 have hB:lX W B:=⟨bB,λq hq z=>xB (z▸R.xtabs q hq)⟩
 refine LG (A:=A.deeper (callEnv fd hh.objs.size fa)) (X:=λb=>X b \/b=hh.objs.size \/b=B) (l:=callEnv fd hh.objs.size fa::l) (B:=B) (Lc:=hh.objs.size) F Z hE LE hB (os:=os) ?tt R.handled ?hd ?hu ?qq
 case hd=>show A.depth+1+N<=900;exact r8 ‹_›
 case hu=>show A.units+3+10*N<=9000;exact r8 ‹_›
 case qq=>exact λs' I' ho' =>h s' I' ho'
 refine⟨⟨I₁ F3.keep,?_,R.guards,R.handled,?_,λq hq=> .inl (R.xtabs q hq),?_,?_⟩,⟨D.code,D.kind,λx k e ø ø=>e,D.globals,D.builtins,D.nocell⟩,rfl, .inr (.inl rfl), .inr (.inr rfl),bx,rfl,(λx p e=>nomatch e),λb o k=>k.elim,_,F3.ns,if_pos rfl,λx p e=>nomatch e⟩
 ·show A.frames.map _=_
  rw[R.frames];rfl
 ·intro e he
  rcases bR.mp he with q|q
  ·subst q
   exact⟨by show fd.scope.kind≠_;rw[D.kind];decide,hh.objs.size,_,rfl,bC _ (bO _),F3.ns, .inr (.inl rfl)⟩
  ·refine gW (R.below e q) λk L0 m f1 f2 f3 f4=> ?_
   exact⟨k,L0,m,f1,f2,f3.keeps F3.keep, .inl f4⟩
 ·intro b o' e q
  rcases q with q|q|q
  ·exact R.xbase b o' e q
  ·rw[q,bC _ (bO _)]at e;exact al e
  ·rw[q,bB]at e;exact al e
 ·intro b hb
  rcases hb with q|q|q
  ·refine xE (R.xlt b q) λo' e=> ?_
   exact⟨o',F3.keep _ _ e⟩
  ·subst q
   refine dc F3.ns λo' ø ø e ø=> ?_
   exact⟨o',e⟩
  ·subst q;exact⟨_,(N3 _ (.head _)).1⟩
end
end
section
theorem LI:aS (ag 19)=AD:=by kernel_rfl
theorem LJ:aS (ag 20)=un:=by kernel_rfl
theorem LK:aS (ag 29)=ut b8:=by kernel_rfl
theorem uv(P:ak):fnIn (HK P) 301=true/\ (az (HK P) 301).body= .stmts (aS (ag 20))/\ codeIn (HK P) (az (HK P) 301).code (az (HK P) 301).qualname=true/\ (az (HK P) 301).scope=cg (ag 20):=⟨by kernel_rfl,by kernel_rfl,by kernel_rfl,by kernel_rfl⟩
theorem AX(P:ak):aT (HK P) 352 (ag 29) (au (ag 29)):=
 ⟨by kernel_rfl,by kernel_rfl,by kernel_rfl,by kernel_rfl,by kernel_rfl,by kernel_rfl,by kernel_rfl,by kernel_rfl,by kernel_rfl,by decide+kernel,by kernel_rfl,by kernel_rfl⟩
theorem LL{W:Wd}{P:ak}(X:(HK P).In W.base):pY W 301 (az (HK P) 301) where
 at_:=ub X (uv P).1
 body:=(uv P).2.1.trans (congrArg FuncBody.stmts LJ)
 globals:=by kernel_rfl
 builtins:=by kernel_rfl
 rec_:=codeRec_of X (uv P).2.2.1
 kind:=by kernel_rfl
 co:=by kernel_rfl
 gen:=by kernel_rfl
 clo:=by kernel_rfl
 bind:=λa b=>by kernel_rfl
 cells:=λn=>by kernel_rfl
 nbox:=by kernel_rfl
 ndep:=by kernel_rfl
 nkind:=by kernel_rfl
 ntake:=by kernel_rfl
 ntree:=by kernel_rfl
 nnames:=by kernel_rfl
 nsubs:=by kernel_rfl
 nstr:=by kernel_rfl
 nrange:=by kernel_rfl
 comp:=by kernel_rfl
 ckind:=by kernel_rfl
end
section
theorem LM(P:ak)(a:ae):bindArgs (az (HK P) 352) ⟨[a],[]⟩=pure ((au (ag 29)).zip [a]):=by kernel_rfl
theorem LN:au (ag 29)=[aa "script"]:=by kernel_rfl
theorem LO:au (ag 19)=[aa "box"]:=by kernel_rfl
theorem LP{W:Wd}{P:ak}(X:(HK P).In W.base)(hT:W.tabs=bd):bw false W 352 (az (HK P) 352) (aS (ag 29)) (au (ag 29)):=
 aT.ok (AX P) X (cn) (λs vs ø hl=>by
  refine xE (dE (hl.trans (show(au (ag 29)).length=1 by kernel_rfl))) λa zq1=> ?_;subst zq1
  exact Binds.mk_eq (LM P a))
theorem LQ{W:Wd}{P:ak}(X:(HK P).In W.base)(hT:W.tabs=bd):pZ W 352 (az (HK P) 352) where
 D:=by have:=LP X hT;rw[LK,LN]at this;exact this
 nbox:=by kernel_rfl
 nturns:=by kernel_rfl
 ntext:=by kernel_rfl
 nother:=by kernel_rfl
 nk:=by kernel_rfl
 nplace:=by kernel_rfl
 nmark:=by kernel_rfl
 nlist:=by kernel_rfl
 ntake:=by kernel_rfl
 ntree:=by kernel_rfl
 nrange:=by kernel_rfl
section
variable{w:fb}{h:Heap}{mg mb:Str->Option ae}
theorem AY(Z:bb w h mg mb){B:Addr}(hB:lX (wd w h mg mb) B):gt (wd w h mg mb) B 296:=by
 have D:=ue (W:=wd w h mg mb) (P:=w.params) Z.O.kin rfl
 rw[LI,LO]at D
 exact λA X s I g d u bx Q E hq=>Lh Z.O D (by kernel_rfl) hB.base hB.tabs I g d u bx hq
noncomputable def AZ:List (List Nat):=["uint", "int", "bytes", "string", "bool", "address", "fixed", "ufixed", "hash", "x", "Zz"].map S
noncomputable def A0:List (List Nat):=["", "8", "256", "32", "33", "7", "264", "8x1", "128x80", "128x81", "20x3", "1"].map S
theorem LR:aN pM false (ag 16) []= .ok (.list (AZ.map .str)):=by kernel_rfl
theorem LS:aN pM false (ag 17) []= .ok (.list (A0.map .str)):=by kernel_rfl
theorem A2{xs:List (List Nat)}{b:Nat}(h:xs.all (λx=>decide (x.length<=b)&&x.all λc=>decide (c<1114112))=true):∀x∈xs,x.length<=b/\ ∀c∈x,c<1114112:=λx hx=>by
 have:=ba.mp h x hx
 rw[aI,decide_eq_true_eq,ba]at this
 exact⟨this.1,λc hc=>by simpa using this.2 c hc⟩
theorem LU(Z:bb w h mg mb):∃fv,∀N,2<=N->nz (wd w h mg mb) N (aa "_law_names") fv AZ 7:=by
 refine bA (Aq Z (uj (n:=0) Z)) λfv e1 e2 e3=> ?_
 exact⟨fv,λN hN=>⟨e1,e2,by have:=e3 [];rw[LR]at this;exact this.mono hN,A2 (by decide+kernel),by decide+kernel⟩⟩
theorem LV(Z:bb w h mg mb):∃fv,∀N,2<=N->nz (wd w h mg mb) N (aa "_law_subs") fv A0 6:=by
 refine bA (Ar Z (uj (n:=0) Z)) λfv e1 e2 e3=> ?_
 exact⟨fv,λN hN=>⟨e1,e2,by have:=e3 [];rw[LS]at this;exact this.mono hN,A2 (by decide+kernel),by decide+kernel⟩⟩
theorem LW(Z:bb w h mg mb){N:Nat}(hN:5<=N):qd (wd w h mg mb) 296 301 N:=by
 have mgT:(wd w h mg mb).mg (aa "_law_take")=some (.ref 296):=bG (K:=HK w.params) Z.O.kin Z.O.g (Ap w.params)
 have calT:b7 (wd w h mg mb) (.ref 296):=bS (ue (W:=wd w h mg mb) (P:=w.params) Z.O.kin rfl)
 have mgA:(wd w h mg mb).mg (aa "_law_tree")=some (.ref 301):=bG (K:=HK w.params) Z.O.kin Z.O.g (As w.params)
 have F:=LL (W:=wd w h mg mb) (P:=w.params) Z.O.kin
 have calA:b7 (wd w h mg mb) (.ref 301):=uf (by obtain⟨o,e1,e2⟩:=F.at_;exact⟨o,e1,_,e2⟩)
 refine xE (LU Z) λfN hN1=> ?_
 refine xE (LV Z) λfS hS1=> ?_
 refine⟨Z.O,λB hB=>AY Z hB,λB hB=> ?_,mgT,calT,mgA,calA,ao (cV _ _) ‹_›⟩
 have:=LA (n:=2) F (λM hM=>⟨Z.O,AY Z hB,mgT,calT,mgA,calA,hN1 M hM,hS1 M hM,by decide+kernel,by decide+kernel,ao (cV _ _) ‹_›,hB⟩)
 exact⟨λA l s X td R hX bx hd hu=>this.1 A l s X td R hX bx (wG ‹_› ‹_› (by rfl)) (jr ‹_› ‹_› (by rfl)),λA l s X td R hX bx hd hu=>this.2 A l s X td R hX bx (wG ‹_› ‹_› (by rfl)) (jr ‹_› ‹_› (by rfl))⟩
noncomputable def J0:Nat:=40
noncomputable def K0:Nat:=140
theorem LX(Z:bb w h mg mb)(LE:l4 (cg (ag 29)) (pE (fw J0 K0) false 24)){X:Addr->Prop}{A:aA}{l:List av}{s:ah}(R:Ready (wd w h mg mb) X A l s){sa:Addr}{vs:List ae}{ns:List Int}(hl:s.heap.IsList sa vs.toArray)(hi:lq vs ns)(hlen:vs.length<=64)(hd:A.depth<=320)(hu:A.units<=100)
  {Q E:ae->ah->Prop} (hq:∀s',Inv (wd w h mg mb) s'->s'.os=s.os->Q (.bool true) s'):wpAny (wd w h mg mb).M A (call (.ref 352) [.ref sa]) Q E s:=by
 have hE:aM false (wd w h mg mb) 560 (pE (fw J0 K0) false 24):=iy Z.O (Ay Z 40 140) 24
 have hsc:(az (HK w.params) 352).scope=cg (ag 29):=(AX w.params).scope
 exact LH (LQ (P:=w.params) Z.O.kin rfl) (LW Z (by decide)) hE (by rw[hsc];exact LE) R hl hi hlen (js (k:=561) hd (by rfl)) (js (k:=5603) hu (by rfl)) hq
end
end
section
theorem LY(args:List WData)(cls:ExcName):gx.row.claim.raises args cls=false:=rfl
theorem LZ(args after:List WData):gx.row.claim.post args (.bool true) after=true:=by kernel_rfl
theorem L1{w:fb}{h:Heap}{p:j8}{loose:List Str}{mean:ExcName->Option ae}{mg mb:Str->Option ae}(KX:(HK w.params).In h)(TB:∀P∈([151,183,205,235]:List Addr),h.get? P=some (tabObj #[]))(T:Top p loose mean mg mb h):bb w h mg mb:=by
 have O:=H7 KX TB T
 have Z:=Jk O (topRead_of (ghost_top (t9 KX TB (ua _)) T))
 exact⟨O,Hq O Z,Hr O Z⟩
theorem L3(LE:l4 (cg (ag 29)) (pE (fw J0 K0) false 24)){w:fb}{s₁:ah}{p:j8}{loose:List Str}{mean mean':ExcName->Option ae}{mg mb:Str->Option ae}{cl:Str->Option Addr}{args:List WData}
  (KX:(HK w.params).In s₁.heap) (TB:∀P∈([151,183,205,235]:List Addr),s₁.heap.get? P=some (tabObj #[])) (T:Top p loose mean mg mb s₁.heap) (hg:s₁.gens= #[])
  {fa:Addr} (hm:mg (aa "law")=some (.ref fa)) {sa:Addr} {vs:List ae} {ns:List Int} (hl:s₁.heap.IsList sa vs.toArray) (hi:lq vs ns) (hlen:¬(63:Int)<(ns.length:Int)):
  wpAny (model gx.row.prog w) callerA (call (.ref fa) [.ref sa])
   (λv s' =>GoodWG gx.row.claim cl mean' args s₁ (.ok (.ret v)) s') (λe s' =>GoodWG gx.row.claim cl mean' args s₁ (.error e) s') s₁:=by
 have e0:mg (aa "law")=some (.ref 352):=bG KX T.g (by kernel_rfl)
 rw[hm]at e0
 cases aq e0
 have hT:=t9 KX TB (ua _)
 have hlen':vs.length<=64:=by have:=lq.length hi;omega
 have I:Inv (wd w s₁.heap mg mb) s₁:=by
  refine⟨λb o e=>of_hideAll _ e,λq hq=>⟨#[],?_,?_⟩, .of_eq hg⟩
  ·exact(hT q hq).1.code (hT q hq).2 (by trivial)
  ·exact(hT q hq).1.tab (hT q hq).2
 have R:Ready (wd w s₁.heap mg mb) (λb=>b∈bd.map (·.2)) callerA [] s₁:=by
  refine⟨I,rfl,rfl,rfl,λe he=>by simp at he,λq hq=>lp hq,λb o e hb=> ?_,λb hb=> ?_⟩
  ·rw[show(wd w s₁.heap mg mb).base.get? b=none from hideAll_none _ hb]at e;exact al e
  ·refine ay (ij.mp hb) λq hq zq2=> ?_;subst zq2
   exact⟨_,(hT q hq).2⟩
 refine LX (w:=w) (L1 KX TB T) LE R hl hi hlen' (by decide+kernel) (by decide+kernel) λs' I' ho=> ?_
 have keep:∀b o,b∉bd.map (·.2)->s₁.heap.get? b=some o->s'.heap.get? b=some o:=λb o hb e=>I'.stays b o (ghost_ne e hb)
 have grown:∀b o,b∈bd.map (·.2)->s₁.heap.get? b=some o->isCodeTable s₁.heap b/\ o=tabObj #[]/\ ∃ps,s'.heap.get? b=some (tabObj ps):=λb o hb e=>by
  refine ay (ij.mp hb) λq hq zq2=> ?_;subst zq2
  have e2:=(hT q hq).2
  rw[e]at e2
  refine ay (I'.tabs q hq) λps h1 h2=> ?_
  exact⟨((hT q hq).1.tab (hT q hq).2).isCodeTable,vF e2,ps,h2.2⟩
 refine⟨.inl ⟨.bool true, .bool true,[],rfl,LY _,ReadsW.bool _,LZ _ _,λø=>⟨List.nodup_nil,λa ha=>by simp at ha⟩⟩,⟨λb o e=> ?_,λb o e=> ?_⟩,ho,I'.gens⟩
 ·by_cases hb:b∈bd.map (·.2)
  ·refine rK (grown b o hb e) λht zq1 ps hP=> ?_;subst zq1
   exact .inr (.inl ⟨ht,rfl, #[],ps,rfl,by rw[Array.empty_append];exact hP⟩)
  ·exact .inl (keep b o hb e)
 ·by_cases hb:b∈bd.map (·.2)
  ·refine rK (grown b o hb e) λø ø ps hP=> ?_
   exact⟨_,hP⟩
  ·exact⟨o,keep b o hb e⟩
end
section
section
variable{C:Calls}{g:Bool}{n:Nat}{sc:Scope}{ρ:aj}
theorem P0{k p}:(pE C g (n+1)).ev sc (.Constant .none k p) ρ= .ok .none:=rfl
theorem P1{b k p}:(pE C g (n+1)).ev sc (.Constant (.bool b) k p) ρ= .ok (.bool b):=rfl
theorem A3{i k p}:(pE C g (n+1)).ev sc (.Constant (.int i) k p) ρ= .ok (.int i):=rfl
theorem P2{x k p y}(h:an x=y):(pE C g (n+1)).ev sc (.Constant (.str x) k p) ρ= .ok (.str y):=by rw[<-h];rfl
theorem P3{x p v}(h:ρ.lookup x=some v)(hd:(x==aa "__debug__")=false):(pE C g (n+1)).ev sc (.Name x p) ρ= .ok v:=by
 show(if x=aa "__debug__" then Res.stuck else match ρ.lookup x with|some v=> .ok v|none=>if cf sc x then aE (C.glob x)else .stuck)=_
 rw[if_neg (λq=>by rw[q,beq_self_eq_true]at hd;exact km hd),h]
theorem P4{x p v}(h:ρ.lookup x=none)(hd:(x==aa "__debug__")=false) (hg:cf sc x=true) (hv:C.glob x=some v):(pE C g (n+1)).ev sc (.Name x p) ρ= .ok v:=by
 show(if x=aa "__debug__" then Res.stuck else match ρ.lookup x with|some v=> .ok v|none=>if cf sc x then aE (C.glob x)else .stuck)=_
 rw[if_neg (λq=>by rw[q,beq_self_eq_true]at hd;exact km hd),h]
 simp only[hg,if_true,hv];rfl
theorem P5{ev:ai->aj->Res PV}:bK ev [] ρ= .ok []:=rfl
theorem P6{ev:ai->aj->Res PV}{e r v vs}(h:ev e ρ= .ok v)(hr:bK ev r ρ= .ok vs):bK ev (e::r) ρ= .ok (v::vs):=by
 show(ev e ρ).bind _=_
 rw[h];show(bK ev r ρ).bind _=_;rw[hr];rfl
theorem P7{es c p vs}(hs:(bv es&&decide (es.length<=64))=true)(h:bK ((pE C g n).ev sc) es ρ= .ok vs):(pE C g (n+1)).ev sc (.Tuple es c p) ρ= .ok (.tuple vs):=by
 show(if(bv es&&decide (es.length<=64))=true then _ else _)=_
 rw[if_pos hs,h];rfl
theorem P8{es p vs}(hs:(bv es&&decide (es.length<=64))=true)(h:bK ((pE C g n).ev sc) es ρ= .ok vs):(pE C g (n+1)).ev sc (.List es p) ρ= .ok (.list vs):=by
 show(if(bv es&&decide (es.length<=64))=true then _ else _)=_
 rw[if_pos hs,h];rfl
theorem P9{l op r p a b v}(hl:(pE C g n).ev sc l ρ= .ok a)(hr:(pE C g n).ev sc r ρ= .ok b)(h:bH op a b=some v):(pE C g (n+1)).ev sc (.BinOp l op r p) ρ= .ok v:=by
 show((pE C g n).ev sc l ρ).bind _=_
 rw[hl];show((pE C g n).ev sc r ρ).bind _=_;rw[hr];show aE _=_;rw[h];rfl
theorem Qa{x p v t}(hx:(pE C g n).ev sc x ρ= .ok v)(h:d4 v=some t):(pE C g (n+1)).ev sc (.UnaryOp .Not x p) ρ= .ok (.bool !t):=by
 show((pE C g n).ev sc x ρ).bind _=_
 rw[hx];show(aE _).bind _=_;rw[h];rfl
theorem Qb{i k p q}:(pE C g (n+1)).ev sc (.UnaryOp .USub (.Constant (.int i) k p) q) ρ= .ok (.int (-i)):=rfl
theorem L4{ev:ai->aj->Res PV}{l op r a b t}(hs:cQ r=true)(hl:ev l ρ= .ok a)(hr:ev r ρ= .ok b)(h:bn C op a b= .ok t):fW C ev l [op] [r] ρ= .ok t:=by
 have e:fW C ev l [op] [r] ρ=lG C ev l op r ρ:=if_pos ⟨rfl,hs⟩
 rw[e,lG,hl];show(gF C ev op a r ρ).bind _=_
 unfold gF;rw[hr];show((bn C op a b).bind _).bind _=_;rw[h];rfl
theorem Qc{ev:ai->aj->Res PV}{l op r op' r' a b c t t'}(hs:cQ r' =true)(hl:ev l ρ= .ok a)(hr:ev r ρ= .ok b)(h:bn C op a b= .ok t)(hr':ev r' ρ= .ok c)(h':bn C op' b c= .ok t'):fW C ev l [op,op'] [r,r'] ρ= .ok (t&&t'):=by
 have e:fW C ev l [op,op'] [r,r'] ρ=lH C ev l op op' r r' ρ:=if_pos ⟨rfl,rfl,hs⟩
 rw[e,lH,hl];show(gF C ev op a r ρ).bind _=_
 unfold gF;rw[hr];show((bn C op a b).bind _).bind _=_;rw[h]
 cases t with
 |false=>rfl
 |true=>show(gF C ev op' b r' ρ).bind _=_;unfold gF;rw[hr'];show((bn C op' b c).bind _).bind _=_;rw[h'];rfl
theorem Qd{l ops rs p t}(h:fW C ((pE C g n).ev sc) l ops rs ρ= .ok t):(pE C g (n+1)).ev sc (.Compare l ops rs p) ρ= .ok (.bool t):=by
 show(fW C ((pE C g n).ev sc) l ops rs ρ).bind _=_
 rw[h];rfl
theorem jM{op vs p v}(h:fk ((pE C g n).ev sc) op vs ρ= .ok v):(pE C g (n+1)).ev sc (.BoolOp op vs p) ρ= .ok v:=h
theorem L5{ev:ai->aj->Res PV}{op e v}(h:ev e ρ= .ok v):fk ev op [e] ρ= .ok v:=h
theorem l7{ev:ai->aj->Res PV}{e e' r b c}(h:ev e ρ= .ok (.bool b))(h':b=true->fk ev .And (e'::r) ρ= .ok (.bool c)):fk ev .And (e::e'::r) ρ= .ok (.bool (b&&c)):=by
 show(ev e ρ).bind _=_
 rw[h]
 cases b with
 |false=>rfl
 |true=>exact h' rfl
theorem A4{ev:ai->aj->Res PV}{e e' r b c}(h:ev e ρ= .ok (.bool b))(h':b=false->fk ev .Or (e'::r) ρ= .ok (.bool c)):fk ev .Or (e::e'::r) ρ= .ok (.bool (b||c)):=by
 show(ev e ρ).bind _=_
 rw[h]
 cases b with
 |true=>rfl
 |false=>exact h' rfl
theorem Qe{ev:ai->aj->Res PV}{op e e' r v t w}(h:ev e ρ= .ok v)(ht:d4 v=some t)(hs:jv op t=false)(h':fk ev op (e'::r) ρ= .ok w):fk ev op (e::e'::r) ρ= .ok w:=by
 show(ev e ρ).bind _=_
 rw[h];show(aE _).bind _=_;rw[ht];show(if jv op t=true then _ else _)=_;rw[hs];exact h'
theorem Qf{ev:ai->aj->Res PV}{op e e' r v t}(h:ev e ρ= .ok v)(ht:d4 v=some t)(hs:jv op t=true):fk ev op (e::e'::r) ρ= .ok v:=by
 show(ev e ρ).bind _=_
 rw[h];show(aE _).bind _=_;rw[ht];show(if jv op t=true then _ else _)=_;rw[hs];rfl
theorem A5{t b o p c v}(ht:(pE C g n).tst sc t ρ= .ok c)(h1:c=true->(pE C g n).ev sc b ρ= .ok v)(h2:c=false->(pE C g n).ev sc o ρ= .ok v):(pE C g (n+1)).ev sc (.IfExp t b o p) ρ= .ok v:=by
 show((pE C g n).tst sc t ρ).bind _=_
 rw[ht]
 cases c with
 |true=>exact h1 rfl
 |false=>exact h2 rfl
theorem Qg{v l u p q a x y z}(hv:(pE C g n).ev sc v ρ= .ok a)(hl:(pE C g n).ev sc l ρ= .ok x)(hu:(pE C g n).ev sc u ρ= .ok y)(h:gE a x y=some z):(pE C g (n+1)).ev sc (.Subscript v (.Slice (some l) (some u) none p) q) ρ= .ok z:=by
 show((pE C g n).ev sc v ρ).bind _=_
 rw[hv];show((pE C g n).ev sc l ρ).bind _=_;rw[hl];show((pE C g n).ev sc u ρ).bind _=_;rw[hu];show aE _=_;rw[h];rfl
theorem Qh{v l p q a x z}(hv:(pE C g n).ev sc v ρ= .ok a)(hl:(pE C g n).ev sc l ρ= .ok x)(h:gE a x .none=some z):(pE C g (n+1)).ev sc (.Subscript v (.Slice (some l) none none p) q) ρ= .ok z:=by
 show((pE C g n).ev sc v ρ).bind _=_
 rw[hv];show((pE C g n).ev sc l ρ).bind _=_;rw[hl];show aE _=_;rw[h];rfl
theorem Qi{v u p q a y z}(hv:(pE C g n).ev sc v ρ= .ok a)(hu:(pE C g n).ev sc u ρ= .ok y)(h:gE a .none y=some z):(pE C g (n+1)).ev sc (.Subscript v (.Slice none (some u) none p) q) ρ= .ok z:=by
 show((pE C g n).ev sc v ρ).bind _=_
 rw[hv];show((pE C g n).ev sc u ρ).bind _=_;rw[hu];show aE _=_;rw[h];rfl
noncomputable def L6:ai->Bool
 | .Slice .. =>false
 |_=>true
theorem Qj{v i q a k z}(hn:L6 i=true)(hv:(pE C g n).ev sc v ρ= .ok a)(hi:(pE C g n).ev sc i ρ= .ok k)(h:fi a k=some z):(pE C g (n+1)).ev sc (.Subscript v i q) ρ= .ok z:=by
 have:(pE C g (n+1)).ev sc (.Subscript v i q) ρ=((pE C g n).ev sc v ρ).bind λa=>((pE C g n).ev sc i ρ).bind λk=>aE (fi a k):=by
  cases i<;>first|rfl|(exact bV hn;done)
 rw[this,hv];show((pE C g n).ev sc i ρ).bind _=_;rw[hi];show aE _=_;rw[h];rfl
theorem A6{a b:Str}(h:(!(a==b))=true):¬a=b:=λq=>by rw[q,beq_self_eq_true]at h;exact bV h
noncomputable def qe(sc:Scope)(f:Str)(args:List ai):Bool:=cf sc f&& !(f==aa "__debug__")&&(kt args).isNone&& !(f==aa "isinstance")&&bv args&&o7 f
theorem A7{f p args q}(hg:qe sc f args=true)(h2:ρ.lookup f=none):(pE C g (n+1)).ev sc (.Call (.Name f p) args [] q) ρ=(bK ((pE C g n).ev sc) args ρ).bind λvs=>iV C f vs:=by
 unfold qe at hg
 refine xA (ei hg) λhg h7=> ?_
 refine xA (ei hg) λhg h6=> ?_
 refine xA (ei hg) λhg h5=> ?_
 refine xA (ei hg) λhg h4=> ?_
 refine xA (ei hg) λh1 h3=> ?_
 rw[Dr]at h4
 have h3:=A6 h3
 have h5:=A6 h5
 have c0:¬((!cf sc f||(ρ.lookup f).isSome||decide (f=aa "__debug__"))=true):=by rw[h1,h2];simp[h3]
 have pl:ku C (pE C g n) sc f args ρ=(bK ((pE C g n).ev sc) args ρ).bind λvs=>iV C f vs:=if_pos (by rw[h6,h7];rfl)
 show jx C g (pE C g n) (pE C false n) sc f args ρ=_
 unfold jx
 rw[if_neg c0,h4]
 show mX C (pE C g n) sc f args ρ=_
 unfold mX
 cases o8 args with
 |none=>exact pl
 |some q=>exact(if_neg h5).trans pl
theorem Qk{f p args q vs r}(hg:qe sc f args=true)(hn:ρ.lookup f=none)(hb:(fX f).isNone=true)(ha:bK ((pE C g n).ev sc) args ρ= .ok vs)(h:C.fn f vs=r):(pE C g (n+1)).ev sc (.Call (.Name f p) args [] q) ρ=r:=by
 rw[A7 hg hn,ha]
 show iV C f vs=r
 unfold iV
 rw[Dr.mp hb];exact h
theorem Ql{f p args q vs v}(hg:qe sc f args=true)(hn:ρ.lookup f=none)(hb:(fX f).isSome=true)(ha:bK ((pE C g n).ev sc) args ρ= .ok vs)(h:cW f vs=some v):(pE C g (n+1)).ev sc (.Call (.Name f p) args [] q) ρ= .ok v:=by
 rw[A7 hg hn,ha]
 show iV C f vs=_
 unfold iV
 cases e:fX f with
 |none=>rw[e]at hb;exact bV hb
 |some x=>show aE (cW f vs)=_;rw[h];rfl
theorem Qm{f p e t r q v b}(hf:(f==aa "isinstance")=true) (hg:(cf sc f&&cf sc t&&bv [e])=true) (h2:ρ.lookup f=none) (h4:ρ.lookup t=none) (ha:(pE C g n).ev sc e ρ= .ok v) (h:dK v t=some b):(pE C g (n+1)).ev sc (.Call (.Name f p) [e, .Name t r] [] q) ρ= .ok (.bool b):=by
 have hf:=cG hf
 subst hf
 refine xA (ei hg) λhg h5=> ?_
 refine xA (ei hg) λh1 h3=> ?_
 show jx C g (pE C g n) (pE C false n) sc (aa "isinstance") [e, .Name t r] ρ=_
 unfold jx
 rw[if_neg (by rw[h1,h2];simp;decide+kernel)]
 show(if aa "isinstance" =aa "isinstance" then(if(cf sc t&&(ρ.lookup t).isNone&&bv [e])=true then((pE C g n).ev sc e ρ).bind λv=>(aE (dK v t)).bind λb=> .ok (PV.bool b)else .stuck)else ku C (pE C g n) sc (aa "isinstance") [e, .Name t r] ρ)=_
 rw[if_pos rfl,if_pos (by rw[h3,h4,h5];rfl),ha]
 show(aE (dK v t)).bind _=_
 rw[h];rfl
theorem Qn{f p elt x px iter gsc gp q v items vs bs}(hf:(f==aa "any")=true) (hg:(cf sc f&&eG gsc iter)=true) (h2:ρ.lookup f=none) (hi:(pE C true n).ev sc iter ρ= .ok v) (ht:bP v=some items) (hc:cj (pE C false n) gsc x elt [] items= .ok vs) (hb:iS vs=some bs):(pE C true (n+1)).ev sc (.Call (.Name f p) [.GeneratorExp elt [⟨.Name x px,iter,[],0⟩] gsc gp] [] q) ρ= .ok (.bool (bs.any id)):=by
 have hf:=cG hf
 subst hf
 refine xA (ei hg) λh1 h3=> ?_
 show(if(!cf sc (aa "any")||(ρ.lookup (aa "any")).isSome||decide (aa "any" =aa "__debug__"))=true then Res.stuck else if(decide (aa "any" =aa "any")&&true&&eG gsc iter)=true then _ else _)=_
 rw[if_neg (by rw[h1,h2];simp;decide+kernel),if_pos (by rw[h3];simp),hi]
 show(aE (bP v)).bind _=_
 rw[ht];show(cj (pE C false n) gsc x elt [] items).bind _=_
 rw[hc];show(aE (iS vs)).bind _=_
 rw[hb];rfl
theorem Qo{o m ap elt x px iter gsc gp q s v items vs r}(hm:(m==aa "join")=true) (hg:(fo o&&ap.endLine==q.line&&eG gsc iter)=true) (ho:(pE C true n).ev sc o ρ= .ok (.str s)) (hi:(pE C true n).ev sc iter ρ= .ok v) (ht:bP v=some items) (hc:cj (pE C false n) gsc x elt [] items= .ok vs) (hb:ci m s [.list vs]=some r):(pE C true (n+1)).ev sc (.Call (.Attribute o m ap) [.GeneratorExp elt [⟨.Name x px,iter,[],0⟩] gsc gp] [] q) ρ= .ok r:=by
 have hm:=cG hm
 subst hm
 simp only[aI]at hg
 obtain⟨zn10,h3⟩:=hg
 obtain⟨h1,h2⟩:=zn10
 show(if(!(fo o&&ap.endLine==q.line&&true&&true))=true then Res.stuck else((pE C true n).ev sc o ρ).bind _)=_
 rw[if_neg (by rw[h1,h2];simp),ho]
 show(if(decide (aa "join" =aa "join")&&true&&eG gsc iter)=true then _ else _)=_
 rw[if_pos (by rw[h3];simp),hi]
 show(aE (bP v)).bind _=_
 rw[ht];show(cj (pE C false n) gsc x elt [] items).bind _=_
 rw[hc];show aE _=_
 rw[hb];rfl
theorem Qp{o m ap args q s vs r}(hg:(fo o&&ap.endLine==q.line&&bv args&&decide (args.length<29)&&iW.contains m&&(kt args).isNone)=true)(ho:(pE C g n).ev sc o ρ= .ok (.str s))(ha:bK ((pE C g n).ev sc) args ρ= .ok vs)(h:ci m s vs=some r):(pE C g (n+1)).ev sc (.Call (.Attribute o m ap) args [] q) ρ= .ok r:=by
 simp only[aI]at hg
 refine xA hg λzn11 h6=> ?_
 refine xA zn11 λzn12 h5=> ?_
 refine xA zn12 λzn13 h4=> ?_
 refine xA zn13 λzn14 h3=> ?_
 refine xA zn14 λh1 h2=> ?_
 show jy C g (pE C g n) (pE C false n) sc o m ap args q ρ=_
 unfold jy
 rw[if_neg (by rw[h1,h2,h3,h4];simp),ho]
 show lI g (pE C g n) (pE C false n) sc m s args ρ=_
 unfold lI
 rw[Dr.mp h6]
 show(if iW.contains m=true then(bK ((pE C g n).ev sc) args ρ).bind λvs=>aE (ci m s vs)else .stuck)=_
 rw[if_pos h5,ha];show aE _=_;rw[h];rfl
theorem Qq{o m ap args q c fs vs r}(hg:(fo o&&ap.endLine==q.line&&bv args&&decide (args.length<29)&&g8.contains m)=true)(ho:(pE C g n).ev sc o ρ= .ok (.inst c fs))(hf:(fs.lookup m).isNone=true)(ha:bK ((pE C g n).ev sc) args ρ= .ok vs)(h:C.meth c m (.inst c fs::vs)=r):(pE C g (n+1)).ev sc (.Call (.Attribute o m ap) args [] q) ρ=r:=by
 simp only[aI]at hg
 refine xA hg λzn15 h5=> ?_
 refine xA zn15 λzn16 h4=> ?_
 refine xA zn16 λzn17 h3=> ?_
 refine xA zn17 λh1 h2=> ?_
 show jy C g (pE C g n) (pE C false n) sc o m ap args q ρ=_
 unfold jy
 rw[if_neg (by rw[h1,h2,h3,h4];simp),ho]
 show(if((fs.lookup m).isNone&&g8.contains m)=true then _ else _)=_
 rw[if_pos (by rw[hf,h5];rfl),ha];exact h
theorem Qr{o a p c fs v}(hb:fo o=true)(hf:dL.contains a=true)(ho:(pE C g n).ev sc o ρ= .ok (.inst c fs))(h:fs.lookup a=some v):(pE C g (n+1)).ev sc (.Attribute o a p) ρ= .ok v:=by
 show(if(!fo o)=true then Res.stuck else((pE C g n).ev sc o ρ).bind _)=_
 rw[if_neg (by rw[hb];simp),ho]
 show(if dL.contains a=true then aE (fs.lookup a)else _)=_
 rw[if_pos hf,h];rfl
theorem Qs{o a p c fs r}(hb:fo o=true)(hf:dL.contains a=false)(ho:(pE C g n).ev sc o ρ= .ok (.inst c fs))(h:C.prop c a (.inst c fs)=r):(pE C g (n+1)).ev sc (.Attribute o a p) ρ=r:=by
 show(if(!fo o)=true then Res.stuck else((pE C g n).ev sc o ρ).bind _)=_
 rw[if_neg (by rw[hb];simp),ho]
 show(if dL.contains a=true then aE (fs.lookup a)else _)=_
 rw[if_neg (by rw[hf];simp)];exact h
theorem i9{elt x px iter ifs csc q v items vs}(hn:cQ iter=true)(hi:(pE C g n).ev sc iter ρ= .ok v)(ht:bP v=some items)(hc:cj (pE C false n) csc x elt ifs items= .ok vs):(pE C g (n+1)).ev sc (.ListComp elt [⟨.Name x px,iter,ifs,0⟩] csc q) ρ= .ok (.list vs):=by
 show(if(!cQ iter)=true then Res.stuck else _)=_
 rw[if_neg (by rw[hn];simp),hi]
 show(aE (bP v)).bind _=_
 rw[ht];show(cj (pE C false n) csc x elt ifs items).bind _=_
 rw[hc];rfl
theorem uw{α:Type}{f:α->Res Bool}:∀{l:List α},(∀a∈l,f a= .ok true)->iu f l= .ok l
 |[],_=>rfl
 |a::r,h=>by
  show(f a).bind _=_
  rw[h a (.head _)];show(iu f r).bind _=_
  rw[uw λb hb=>h b (.tail _ hb)];rfl
theorem A8{α:Type}{f:α->Res Bool}{t:α->Bool}:∀{l:List α},(∀a∈l,f a= .ok (t a))->iu f l= .ok (l.filter t)
 |[],_=>rfl
 |a::r,h=>by
  show(f a).bind _=_
  rw[h a (.head _)];show(iu f r).bind _=_
  rw[A8 λb hb=>h b (.tail _ hb)]
  show Res.ok _=_
  rw[vX]
theorem ux{α β:Type}{f:α->Res β}{t:α->β}:∀{l:List α},(∀a∈l,f a= .ok (t a))->fm f l= .ok (l.map t)
 |[],_=>rfl
 |a::r,h=>by
  show(f a).bind _=_
  rw[h a (.head _)];show(fm f r).bind _=_
  rw[ux λb hb=>h b (.tail _ hb)];rfl
theorem Qt{E:Ev}{csc x elt items}{t:PV->PV}(hs:(g7 csc&&bQ csc x&&x !=aa ".0")=true) (h:∀v∈items,E.ev csc elt [(x,v)]= .ok (t v)):cj E csc x elt [] items= .ok (items.map t):=by
 unfold cj
 rw[if_pos hs,uw (f:=iv E csc x []) (λa ø=>rfl)]
 show b4 (fm _ items)=_
 rw[ux h];rfl
theorem Qu{E:Ev}{csc x elt e items}{f:PV->Bool}(hs:(g7 csc&&bQ csc x&&x !=aa ".0")=true) (hf:∀v∈items,E.tst csc e [(x,v)]= .ok (f v)) (h:∀v∈items,E.ev csc elt [(x,v)]= .ok v):cj E csc x elt [e] items= .ok (items.filter f):=by
 unfold cj
 rw[if_pos hs,A8 (f:=iv E csc x [e]) (t:=f) (λa ha=>hf a ha)]
 show b4 (fm _ (items.filter f))=_
 rw[ux (t:=λv=>v) (λa ha=>h a (Da.mp ha).1),List.map_id'];rfl
theorem Qv{parts p vs ws}(hl:(decide (2<=parts.length)&&decide (parts.length<=16))=true)(h:bK (gG ((pE C g n).ev sc)) parts ρ= .ok vs)(ht:cO vs=some ws):(pE C g (n+1)).ev sc (.JoinedStr parts p) ρ= .ok (.str ws.flatten):=by
 show(if(decide (2<=parts.length)&&decide (parts.length<=16))=true then _ else _)=_
 rw[if_pos hl,h]
 show(match cO vs with|some ws=>Res.ok (PV.str ws.flatten)|none=> .stuck)=_
 rw[ht]
theorem Qw{x p t}(h:(pE C g n).tst sc x ρ= .ok t):(pE C g (n+1)).tst sc (.UnaryOp .Not x p) ρ= .ok !t:=by
 show((pE C g n).tst sc x ρ).bind _=_
 rw[h];rfl
theorem nH{l ops rs p t}(h:fW C ((pE C g n).ev sc) l ops rs ρ= .ok t):(pE C g (n+1)).tst sc (.Compare l ops rs p) ρ= .ok t:=h
theorem gd{op vs p t}(h:iU ((pE C g n).tst sc) op vs ρ= .ok t):(pE C g (n+1)).tst sc (.BoolOp op vs p) ρ= .ok t:=h
theorem A9{tst:ai->aj->Res Bool}{op e t}(h:tst e ρ= .ok t):iU tst op [e] ρ= .ok t:=by
 show(tst e ρ).bind _=_
 rw[h]
 cases op<;>cases t<;>rfl
theorem kN{tst:ai->aj->Res Bool}{e e' r b c}(h:tst e ρ= .ok b)(h':b=true->iU tst .And (e'::r) ρ= .ok c):iU tst .And (e::e'::r) ρ= .ok (b&&c):=by
 show(tst e ρ).bind _=_
 rw[h]
 cases b with
 |false=>rfl
 |true=>exact h' rfl
theorem iB{tst:ai->aj->Res Bool}{e e' r b c}(h:tst e ρ= .ok b)(h':b=false->iU tst .Or (e'::r) ρ= .ok c):iU tst .Or (e::e'::r) ρ= .ok (b||c):=by
 show(tst e ρ).bind _=_
 rw[h]
 cases b with
 |true=>rfl
 |false=>exact h' rfl
noncomputable def L7:ai->Bool
 | .UnaryOp .Not .. =>false
 | .BoolOp .. =>false
 | .IfExp .. =>false
 | .Compare .. =>false
 |_=>true
theorem Qx{e v t}(hp:L7 e=true)(h:(pE C g n).ev sc e ρ= .ok v)(ht:d4 v=some t):(pE C g (n+1)).tst sc e ρ= .ok t:=by
 have:(pE C g (n+1)).tst sc e ρ=((pE C g n).ev sc e ρ).bind λv=>aE (d4 v):=by
  cases e with
  |UnaryOp op x p=>cases op<;>first|(cases hp;done)|rfl
  |_=>first|(cases hp;done)|rfl
 rw[this,h];show aE _=_;rw[ht];rfl
section
variable{ex:aC->aj->aB}{k:Nat}{ρ':aj}{o:aB}
theorem aR:aw ex [] ρ= .next ρ:=rfl
theorem aO{s r}(h:ex s ρ= .next ρ')(hr:aw ex r ρ' =o):aw ex (s::r) ρ=o:=by
 show(match ex s ρ with| .next ρ' =>aw ex r ρ'|o=>o)=_
 rw[h];exact hr
noncomputable def aB.stops:aB->Bool
 | .next _=>false
 |_=>true
theorem aD{s r}(h:ex s ρ=o)(hs:o.stops=true):aw ex (s::r) ρ=o:=by
 show(match ex s ρ with| .next ρ' =>aw ex r ρ'|o=>o)=_
 rw[h]
 cases o<;>first|rfl|(exact bV hs;done)
theorem Qy{x kk p q}:pX C g (k+1) sc (.Expr (.Constant (.str x) kk p) q) ρ= .next ρ:=rfl
theorem Ba{f as ks p q}(h:(pE C g 24).ev sc (.Call f as ks p) ρ= .ok .none):pX C g (k+1) sc (.Expr (.Call f as ks p) q) ρ= .next ρ:=by
 show aW ((pE C g 24).ev sc (.Call f as ks p) ρ) ρ _=_
 rw[h];rfl
theorem d5{f as ks p q c}(h:(pE C g 24).ev sc (.Call f as ks p) ρ= .exc c):pX C g (k+1) sc (.Expr (.Call f as ks p) q) ρ= .exc c ρ:=by
 show aW ((pE C g 24).ev sc (.Call f as ks p) ρ) ρ _=_
 rw[h];rfl
noncomputable def Bb:ai->Bool
 | .ListComp .. =>false
 |_=>true
theorem bf{x px e p v}(hc:(Bb e&&bQ sc x&&kv e)=true)(h:(pE C g 24).ev sc e ρ= .ok v)(hs:aP x v ρ=ρ'):pX C g (k+1) sc (.Assign [.Name x px] e p) ρ= .next ρ':=by
 simp only[aI]at hc
 obtain⟨zn18,h3⟩:=hc
 obtain⟨h1,h2⟩:=zn18
 have:pX C g (k+1) sc (.Assign [.Name x px] e p) ρ=(if(bQ sc x&&kv e)=true then aW ((pE C g 24).ev sc e ρ) ρ λa=> .next (aP x a ρ)else .stuck):=by
  show lL (pE C g 24) (pX C g k) sc (.Assign [.Name x px] e p) ρ=_
  unfold lL
  cases e<;>first|rfl|(exact bV h1;done)
 rw[this,if_pos (by rw[h2,h3];rfl),h]
 show aB.next _=_
 rw[hs]
theorem L8{x px e p c}(hc:(Bb e&&bQ sc x&&kv e)=true)(h:(pE C g 24).ev sc e ρ= .exc c):pX C g (k+1) sc (.Assign [.Name x px] e p) ρ= .exc c ρ:=by
 simp only[aI]at hc
 obtain⟨zn19,h3⟩:=hc
 obtain⟨h1,h2⟩:=zn19
 have:pX C g (k+1) sc (.Assign [.Name x px] e p) ρ=(if(bQ sc x&&kv e)=true then aW ((pE C g 24).ev sc e ρ) ρ λa=> .next (aP x a ρ)else .stuck):=by
  show lL (pE C g 24) (pX C g k) sc (.Assign [.Name x px] e p) ρ=_
  unfold lL
  cases e<;>first|rfl|(exact bV h1;done)
 rw[this,if_pos (by rw[h2,h3];rfl),h]
 rfl
theorem L9{x px e gs csc p q v}(hc:(bQ sc x&&px.line==p.line&&(csc.names.lookup x).isNone)=true)(h:(pE C g 24).ev sc (.ListComp e gs csc p) ρ= .ok v)(hs:aP x v ρ=ρ'):pX C g (k+1) sc (.Assign [.Name x px] (.ListComp e gs csc p) q) ρ= .next ρ':=by
 show(if(bQ sc x&&px.line==p.line&&(csc.names.lookup x).isNone)=true then aW ((pE C g 24).ev sc (.ListComp e gs csc p) ρ) ρ _ else _)=_
 rw[if_pos hc,h]
 show aB.next _=_
 rw[hs]
theorem iC{x px y py c q e p a b ρ1}(hc:(bQ sc x&&bQ sc y&&x !=y&&px.line==py.line&&pb e)=true)(h:(pE C g 24).ev sc e ρ= .ok (.tuple [a,b]))(h1:aP x a ρ=ρ1)(h2:aP y b ρ1=ρ'):pX C g (k+1) sc (.Assign [.Tuple [.Name x px, .Name y py] c q] e p) ρ= .next ρ':=by
 show(if(bQ sc x&&bQ sc y&&x !=y&&px.line==py.line&&pb e)=true then aW ((pE C g 24).ev sc e ρ) ρ _ else _)=_
 rw[if_pos hc,h]
 show aB.next _=_
 rw[h1,h2]
theorem qf{x px e p a b v}(hx:ρ.lookup x=some (.int a))(h:(pE C g 24).ev sc e ρ= .ok b)(hv:bH .Add (.int a) b=some v)(hs:aP x v ρ=ρ'):pX C g (k+1) sc (.AugAssign (.Name x px) .Add e p) ρ= .next ρ':=by
 have e:pX C g (k+1) sc (.AugAssign (.Name x px) .Add e p) ρ=(match(ρ.lookup x).bind gl with|some i=>if wp= .Add \/wp= .Sub then aW ((pE C g 24).ev sc e ρ) ρ λb=>aW (aE (bH .Add (.int i) b)) ρ λr=> .next (aP x r ρ)else .stuck|none=> .stuck):=rfl
 rw[e,hx]
 show(if wp= .Add \/wp= .Sub then _ else _)=_
 rw[if_pos (.inl rfl)]
 rw[h]
 show aW (aE (bH .Add (.int a) b)) ρ _=_
 rw[hv]
 show aB.next _=_
 rw[hs]
theorem Ma{x px e p a b v}(hx:ρ.lookup x=some (.int a))(h:(pE C g 24).ev sc e ρ= .ok b)(hv:bH .Sub (.int a) b=some v)(hs:aP x v ρ=ρ'):pX C g (k+1) sc (.AugAssign (.Name x px) .Sub e p) ρ= .next ρ':=by
 have e:pX C g (k+1) sc (.AugAssign (.Name x px) .Sub e p) ρ=(match(ρ.lookup x).bind gl with|some i=>if wq= .Add \/wq= .Sub then aW ((pE C g 24).ev sc e ρ) ρ λb=>aW (aE (bH .Sub (.int i) b)) ρ λr=> .next (aP x r ρ)else .stuck|none=> .stuck):=rfl
 rw[e,hx]
 show(if wq= .Add \/wq= .Sub then _ else _)=_
 rw[if_pos (.inr rfl)]
 rw[h]
 show aW (aE (bH .Sub (.int a) b)) ρ _=_
 rw[hv]
 show aB.next _=_
 rw[hs]
theorem Bc{t b e p c}(ht:(pE C g 24).tst sc t ρ= .ok c)(h1:c=true->aw (pX C g k sc) b ρ=o)(h2:c=false->aw (pX C g k sc) e ρ=o):pX C g (k+1) sc (.If t b e p) ρ=o:=by
 show aW ((pE C g 24).tst sc t ρ) ρ _=_
 rw[ht]
 cases c with
 |true=>exact h1 rfl
 |false=>exact h2 rfl
theorem kO{t b e p c}(ht:(pE C g 24).tst sc t ρ= .ok c)(hc:c=true)(h1:aw (pX C g k sc) b ρ=o):pX C g (k+1) sc (.If t b e p) ρ=o:=Bc ht (λø=>h1) λq=>by rw[hc]at q;cases q
theorem jN{t b e p c}(ht:(pE C g 24).tst sc t ρ= .ok c)(hc:c=false)(h1:aw (pX C g k sc) e ρ=o):pX C g (k+1) sc (.If t b e p) ρ=o:=Bc ht (λq=>by rw[hc]at q;cases q) λø=>h1
theorem l8{t b p}(h:dz ((pE C g 24).tst sc t) (aw (pX C g k sc) b) jB ρ=o):pX C g (k+1) sc (.While t b [] p) ρ=o:=h
theorem Bd{x px it b p v items}(hc:(bQ sc x&&cQ it)=true)(h:(pE C g 24).ev sc it ρ= .ok v)(hi:bP v=some items)(hl:cX (aw (pX C g k sc) b) x items ρ=o):pX C g (k+1) sc (.For (.Name x px) it b [] p) ρ=o:=by
 show(if(bQ sc x&&cQ it)=true then aW (b4 ((pE C g 24).ev sc it ρ)) ρ _ else _)=_
 rw[if_pos hc,h]
 show aW (aE (bP v)) ρ _=_
 rw[hi];exact hl
theorem jO{e p v}(h:(pE C g 24).ev sc e ρ= .ok v):pX C g (k+1) sc (.Return (some e) p) ρ= .ret v:=by
 show aW ((pE C g 24).ev sc e ρ) ρ _=_
 rw[h];rfl
theorem a6{e p v w}(h:(pE C g 24).ev sc e ρ= .ok v)(hv:v=w):pX C g (k+1) sc (.Return (some e) p) ρ= .ret w:=hv▸jO h
theorem Be{e p c}(h:(pE C g 24).ev sc e ρ= .exc c):pX C g (k+1) sc (.Return (some e) p) ρ= .exc c ρ:=by
 show aW ((pE C g 24).ev sc e ρ) ρ _=_
 rw[h];rfl
theorem Bf{p}:pX C g (k+1) sc (.Break p) ρ= .brk ρ:=rfl
theorem kP{f pf e q p y c}(hc:(cf sc f&&bv [e])=true)(h:(pE C g 24).ev sc e ρ= .ok (.str y))(hx:jz f=some c):pX C g (k+1) sc (.Raise (some (.Call (.Name f pf) [e] [] q)) none p) ρ= .rais c ρ:=by
 show(if(cf sc f&&bv [e])=true then aW (b4 ((pE C g 24).ev sc e ρ)) ρ _ else _)=_
 rw[if_pos hc,h]
 show(match jz f with|some c=>aB.rais c ρ|none=> .stuck)=_
 rw[hx]
theorem Bg{b h hs p}(hb:aw (pX C g k sc) b ρ= .next ρ'):pX C g (k+1) sc (.Try b (h::hs) [] [] p) ρ= .next ρ':=by
 show(match aw (pX C g k sc) b ρ with| .next ρ' =>aB.next ρ'| .ret v=> .ret v| .exc c ρ' =>fZ sc c ρ' (h::hs)|_=> .stuck)=_
 rw[hb]
theorem Mb{b h hs p v}(hb:aw (pX C g k sc) b ρ= .ret v):pX C g (k+1) sc (.Try b (h::hs) [] [] p) ρ= .ret v:=by
 show(match aw (pX C g k sc) b ρ with| .next ρ' =>aB.next ρ'| .ret v=> .ret v| .exc c ρ' =>fZ sc c ρ' (h::hs)|_=> .stuck)=_
 rw[hb]
theorem qg{b h hs p c}(hb:aw (pX C g k sc) b ρ= .exc c ρ')(hh:fZ sc c ρ' (h::hs)=o):pX C g (k+1) sc (.Try b (h::hs) [] [] p) ρ=o:=by
 show(match aw (pX C g k sc) b ρ with| .next ρ' =>aB.next ρ'| .ret v=> .ret v| .exc c ρ' =>fZ sc c ρ' (h::hs)|_=> .stuck)=_
 rw[hb];exact hh
theorem nJ{tst:aj->Res Bool}{body:aj->aB}(f:Nat->aj):∀(m a fuel:Nat),m<fuel->(∀i,a<=i->i<a+m->tst (f i)= .ok true/\ body (f i)= .next (f (i+1)))->tst (f (a+m))= .ok false->dz tst body fuel (f a)= .next (f (a+m))
 |0,a,0,hf,_,_=>absurd hf (jg _)
 |0,a,fuel+1,_,_,he=>by
  show(match tst (f a)with| .ok true=>_| .ok false=>aB.next (f a)|_=> .stuck)=_
  rw[show f (a+0)=f a from rfl]at he
  rw[he];rfl
 |m+1,a,0,hf,_,_=>absurd hf (oF _)
 |m+1,a,fuel+1,hf,hs,he=>by
  refine xA (hs a (bO _) (CK (j7 _))) λh1 h2=> ?_
  show(match tst (f a)with| .ok true=>(match body (f a)with| .next ρ' =>dz tst body fuel ρ'| .brk ρ' => .next ρ'| .ret v=> .ret v|_=> .stuck)| .ok false=>aB.next (f a)|_=> .stuck)=_
  rw[h1]
  show(match body (f a)with| .next ρ' =>dz tst body fuel ρ'| .brk ρ' => .next ρ'| .ret v=> .ret v|_=> .stuck)=_
  rw[h2]
  show dz tst body fuel (f (a+1))=_
  have e:a+(m+1)=(a+1)+m:=by omega
  rw[e]at he ⊢
  exact nJ f m (a+1) fuel (by omega) (λi h1 h2=>hs i (ao (bk _ _) ‹_›) (by omega)) he
theorem Bi{tst:aj->Res Bool}{body:aj->aB}{fuel:Nat}(h1:tst ρ= .ok true)(h2:body ρ= .next ρ')(h:dz tst body fuel ρ' =o):dz tst body (fuel+1) ρ=o:=by
 show(match tst ρ with| .ok true=>(match body ρ with| .next ρ' =>dz tst body fuel ρ'| .brk ρ' => .next ρ'| .ret v=> .ret v|_=> .stuck)| .ok false=>aB.next ρ|_=> .stuck)=_
 rw[h1]
 rw[h2];exact h
theorem Mc{tst:aj->Res Bool}{body:aj->aB}{fuel:Nat}(h1:tst ρ= .ok false):dz tst body (fuel+1) ρ= .next ρ:=by
 show(match tst ρ with| .ok true=>_| .ok false=>aB.next ρ|_=> .stuck)=_
 rw[h1]
theorem Md{tst:aj->Res Bool}{body:aj->aB}{fuel:Nat}(h1:tst ρ= .ok true)(h2:body ρ= .brk ρ'):dz tst body (fuel+1) ρ= .next ρ':=by
 show(match tst ρ with| .ok true=>(match body ρ with| .next ρ' =>dz tst body fuel ρ'| .brk ρ' => .next ρ'| .ret v=> .ret v|_=> .stuck)| .ok false=>aB.next ρ|_=> .stuck)=_
 rw[h1]
 rw[h2]
theorem Me{tst:aj->Res Bool}{body:aj->aB}{fuel:Nat}{v:PV}(h1:tst ρ= .ok true)(h2:body ρ= .ret v):dz tst body (fuel+1) ρ= .ret v:=by
 show(match tst ρ with| .ok true=>(match body ρ with| .next ρ' =>dz tst body fuel ρ'| .brk ρ' => .next ρ'| .ret v=> .ret v|_=> .stuck)| .ok false=>aB.next ρ|_=> .stuck)=_
 rw[h1]
 rw[h2]
theorem jP{t b e p c r}(ht:(pE C g 24).tst sc t ρ= .ok c)(hc:c=true)(hb:aw (pX C g k sc) b ρ= .next ρ')(hr:aw (pX C g (k+1) sc) r ρ' =o):aw (pX C g (k+1) sc) (.If t b e p::r) ρ=o:=aO (kO ht hc hb) hr
theorem br{t b e p c r}(ht:(pE C g 24).tst sc t ρ= .ok c)(hc:c=false)(hb:aw (pX C g k sc) e ρ= .next ρ')(hr:aw (pX C g (k+1) sc) r ρ' =o):aw (pX C g (k+1) sc) (.If t b e p::r) ρ=o:=aO (jN ht hc hb) hr
theorem kQ{t b e p c r}(ht:(pE C g 24).tst sc t ρ= .ok c)(hc:c=true)(hb:aw (pX C g k sc) b ρ=o)(hs:o.stops=true):aw (pX C g (k+1) sc) (.If t b e p::r) ρ=o:=aD (kO ht hc hb) hs
theorem Mf{t b e p c r}(ht:(pE C g 24).tst sc t ρ= .ok c)(hc:c=false)(hb:aw (pX C g k sc) e ρ=o)(hs:o.stops=true):aw (pX C g (k+1) sc) (.If t b e p::r) ρ=o:=aD (jN ht hc hb) hs
inductive dk(tst:aj->Res Bool)(body:aj->aB)(I:Nat->aj->Prop)(Post:aj->Prop)(o:aB)(n:Nat)(ρ:aj):Prop
 |stop (h:tst ρ= .ok false) (hp:Post ρ)
 |next (ρ':aj) (h:tst ρ= .ok true) (hb:body ρ= .next ρ') (n':Nat) (hn:n'<n) (hi:I n' ρ')
 |brk (ρ':aj) (h:tst ρ= .ok true) (hb:body ρ= .brk ρ') (hp:Post ρ')
 |ret (v:PV) (h:tst ρ= .ok true) (hb:body ρ= .ret v) (ho:o= .ret v)
theorem dk.test{tst:aj->Res Bool}{body:aj->aB}{I:Nat->aj->Prop}{Post:aj->Prop}{n:Nat}{b:Bool}(ht:tst ρ= .ok b)(hs:dk (λø=> .ok b) body I Post o n ρ):dk tst body I Post o n ρ:=by
 cases hs with
 |stop h hp=>exact .stop (ht.trans h) hp
 |next ρ' h hb n' hn hi=>exact .next ρ' (ht.trans h) hb n' hn hi
 |brk ρ' h hb hi=>exact .brk ρ' (ht.trans h) hb hi
 |ret v h hb ho=>exact .ret v (ht.trans h) hb ho
theorem dk.pre{tst:aj->Res Bool}{body:aj->aB}{I:Nat->aj->Prop}{Post:aj->Prop}{n:Nat}{ρ3:aj}{rest:List aC}(ht:tst ρ= .ok true)(hp:∀o',aw ex rest ρ3=o'->body ρ=o')(hs:dk (λø=> .ok true) (λø=>aw ex rest ρ3) I Post o n ρ):dk tst body I Post o n ρ:=by
 cases hs with
 |stop h=>cases h
 |next ρ' h hb n' hn hi=>exact .next ρ' ht (hp _ hb) n' hn hi
 |brk ρ' h hb hi=>exact .brk ρ' ht (hp _ hb) hi
 |ret v h hb ho=>exact .ret v ht (hp _ hb) ho
theorem Bj{tst:aj->Res Bool}{body:aj->aB}{I:Nat->aj->Prop}{Post:aj->Prop}(step:∀n ρ,I n ρ->dk tst body I Post o n ρ):∀fuel n ρ,n<fuel->I n ρ->(∃ρ',dz tst body fuel ρ= .next ρ'/\ Post ρ') \/∃v,dz tst body fuel ρ= .ret v/\ o= .ret v
 |0,n,_,hn,_=>absurd hn (oF _)
 |fuel+1,n,ρ,hn,hi=>by
  rcases step n ρ hi with ⟨h,hp⟩|⟨ρ',h,hb,n',hn',hi'⟩|⟨ρ',h,hb,hp⟩|⟨v,h,hb,ho⟩
  ·exact .inl ⟨ρ,Mc h,hp⟩
  ·rcases Bj step fuel n' ρ' (by omega) hi' with ⟨ρ2,e,hp⟩|⟨v,e,ho⟩
   ·exact .inl ⟨ρ2,Bi h hb e,hp⟩
   ·exact .inr ⟨v,Bi h hb e,ho⟩
  ·exact .inl ⟨ρ',Md h hb,hp⟩
  ·exact .inr ⟨v,Me h hb,ho⟩
theorem uy{t b p r}(I:Nat->aj->Prop)(Post:aj->Prop)(n:Nat)(hn:n<100)(h0:I n ρ)(step:∀n ρ,I n ρ->dk ((pE C g 24).tst sc t) (aw (pX C g k sc) b) I Post o n ρ)(hr:∀ρ',Post ρ'->aw (pX C g (k+1) sc) r ρ' =o):aw (pX C g (k+1) sc) (.While t b [] p::r) ρ=o:=by
 rcases Bj step jB n ρ hn h0 with ⟨ρ',e,hp⟩|⟨v,e,ho⟩
 ·exact aO (l8 e) (hr ρ' hp)
 ·rw[ho];exact aD (l8 e) rfl
theorem d6{tst:Res Bool}{b c:Bool}(h:tst= .ok b)(hb:b=c):tst= .ok c:=hb▸h
theorem kR{t b o p c v}(ht:(pE C g n).tst sc t ρ= .ok c)(hc:c=true)(h1:(pE C g n).ev sc b ρ= .ok v):(pE C g (n+1)).ev sc (.IfExp t b o p) ρ= .ok v:=A5 ht (λø=>h1) λq=>by rw[hc]at q;cases q
theorem kS{t b o p c v}(ht:(pE C g n).tst sc t ρ= .ok c)(hc:c=false)(h1:(pE C g n).ev sc o ρ= .ok v):(pE C g (n+1)).ev sc (.IfExp t b o p) ρ= .ok v:=A5 ht (λq=>by rw[hc]at q;cases q) λø=>h1
theorem ja{ev:Res PV}{v w:PV}(h:ev= .ok v)(hv:v=w):ev= .ok w:=hv▸h
theorem Qz{body:aj->aB}{x:Str}:cX body x [] ρ= .next ρ:=rfl
theorem Bk{body:aj->aB}{x:Str}{v:PV}{r:List PV}{ρ1:aj}(hs:aP x v ρ=ρ1)(h1:body ρ1= .next ρ')(h:cX body x r ρ' =o):cX body x (v::r) ρ=o:=by
 show(match body (aP x v ρ)with| .next ρ' =>cX body x r ρ'| .ret v=> .ret v| .exc c _=> .held c|_=> .stuck)=_
 rw[hs,h1];exact h
theorem Mg{body:aj->aB}{x:Str}{v:PV}{r:List PV}{ρ1:aj}{c:XC}(hs:aP x v ρ=ρ1)(h1:body ρ1= .exc c ρ'):cX body x (v::r) ρ= .held c:=by
 show(match body (aP x v ρ)with| .next ρ' =>cX body x r ρ'| .ret v=> .ret v| .exc c _=> .held c|_=> .stuck)=_
 rw[hs,h1]
end
theorem l9{x:Str}{v:PV}{r:aj}:((x,v)::r:aj).lookup x=some v:=by rw[ca,beq_self_eq_true]
theorem qh{x y:Str}{v:PV}{w:Option PV}{r:aj}(h:(x==y)=false)(h':r.lookup x=w):((y,v)::r:aj).lookup x=w:=by rw[ca,h];exact h'
theorem QA{x:Str}:([]:aj).lookup x=none:=rfl
theorem qi{x:Str}{v w:PV}{r:aj}:aP x v ((x,w)::r)=(x,v)::r:=by
 show(if x=x then _ else _)=_
 rw[if_pos rfl]
theorem qj{x y:Str}{v w:PV}{r r':aj}(h:(y==x)=false)(h':aP x v r=r'):aP x v ((y,w)::r)=(y,w)::r':=by
 show(if y=x then _ else(y,w)::aP x v r)=_
 rw[if_neg (λq=>by rw[q,beq_self_eq_true]at h;exact km h),h']
theorem Mh{x:Str}{v:PV}:aP x v []=[(x,v)]:=rfl
theorem jQ{x y:Str}{v:PV}{w:Option PV}{r:aj}(h:(x==y)=false)(h':r.lookup x=w):(aP y v r).lookup x=w:=by rw[f9,if_neg (beq_eq_false_iff_ne.mp h),h']
theorem QB{x:Str}{v:PV}{r:aj}:(aP x v r).lookup x=some v:=by rw[f9,if_pos rfl]
theorem Mi{x:Str}{v w:PV}:∀{r:aj},aP x v (aP x w r)=aP x v r
 |[]=>qi
 |(y,u)::r=>by
  show aP x v (if y=x then(y,w)::r else(y,u)::aP x w r)=if y=x then(y,v)::r else(y,u)::aP x v r
  by_cases q:y=x
  ·rw[if_pos q,if_pos q,q];exact qi
  ·rw[if_neg q,if_neg q]
   exact qj (beq_eq_false_iff_ne.mpr q) Mi
theorem dm{C:Calls}{gen:Bool}{st:aC}{args:List PV}{v:PV}{names:List Str}(hn:au st=names)(hl:args.length=names.length)(h:aw (pX C gen 12 (cg st)) (aS st) (names.zip args)= .ret v):aN C gen st args= .ok v:=by
 unfold aN
 rw[hn,if_pos hl,h];rfl
theorem ma{C:Calls}{gen:Bool}{st:aC}{args:List PV}{o:aB}{names:List Str}(hn:au st=names)(hl:args.length=names.length)(h:aw (pX C gen 12 (cg st)) (aS st) (names.zip args)=o):aN C gen st args=jG o:=by
 unfold aN
 rw[hn,if_pos hl,h]
end
end
section
section
variable{C:Calls}{g:Bool}{k:Nat}{sc:Scope}{ρ:aj}{o:aB}
theorem ch{t b e p c r}(ht:(pE C g 24).tst sc t ρ= .ok c)(hc:c=true)(hs:o.stops=true)(hb:aw (pX C g k sc) b ρ=o):aw (pX C g (k+1) sc) (.If t b e p::r) ρ=o:=kQ ht hc hb hs
theorem Bl{t b e p c r}(ht:(pE C g 24).tst sc t ρ= .ok c)(hc:c=false)(hs:o.stops=true)(hb:aw (pX C g k sc) e ρ=o):aw (pX C g (k+1) sc) (.If t b e p::r) ρ=o:=Mf ht hc hb hs
end
theorem QC{ev:ai->aj->Res PV}{ρ:aj}{x k p y}(h:an x=y)(hl:db (an x).length 60000=true):gG ev (.Constant (.str x) k p) ρ= .ok (.str y):=by
 rw[<-h]
 exact if_pos (bz hl)
theorem QD{ev:ai->aj->Res PV}{ρ:aj}{e p v w}(h:ev e ρ= .ok v)(hv:eS v= .ok w):gG ev (.FormattedValue e (-1) none p) ρ= .ok w:=by
 show(ev e ρ).bind eS=_
 rw[h];exact hv
theorem QE:an (aa "[")=[91]:=by decide+kernel
theorem QF:an (aa "]")=[93]:=by decide+kernel
theorem QG:an (aa "[]")=[91,93]:=by decide+kernel
theorem QH:an (aa "()")=[40,41]:=by decide+kernel
theorem Bm{b:Bool}:d4 (.bool b)=some b:=rfl
theorem QI:an (aa "0")=[48]:=by decide+kernel
theorem QJ:an (aa "x")=[120]:=by decide+kernel
theorem QK:an (aa "")=[]:=by decide+kernel
noncomputable abbrev Sm(x:List Nat):Prop:=x.length<=100
theorem dn:100000<=aX:=by rw[gn];decide
theorem mc{α:Type}(xs:List α)(k:Nat)(h:k<=1000):iR xs (k:Int)=xs[k]? :=by
 have:=dn
 unfold iR
 rw[if_pos (by lia)];rfl
section
variable{C:Calls}{x y:List Nat}{a b k:Nat}{c:Nat}
theorem cB:bH .Add (.int (k:Int)) (.int 1)=some (.int ((k+1:Nat):Int)):=rfl
theorem jR:bH .Add (.int (k:Int)) (.int 2)=some (.int ((k+2:Nat):Int)):=rfl
theorem fC(h:Sm x):cW (aa "len") [.str x]=some (.int (x.length:Nat)):=by
 have:=dn
 rw[pR]
 exact if_pos (by unfold Sm at h;exact aV ‹_› (by rfl))
theorem jb:bn C .Lt (.int (a:Int)) (.int (b:Int))= .ok (decide (a<b)):=by
 show Res.ok (decide ((a:Int)<(b:Int)))=_
 rw[decide_eq_decide.mpr re]
theorem kT:bn C .Eq (.int (a:Int)) (.int (b:Int))= .ok (a==b):=by
 show Res.ok ((a:Int)==(b:Int))=_
 congr 1
 by_cases h:a=b
 ·subst h;simp
 ·rw[beq_eq_false_iff_ne.mpr h,beq_eq_false_iff_ne];lia
theorem qk(h:a<=1000):gm (.int (a:Int))=some (some a):=by
 have:=dn
 show(if(0:Int)<=(a:Int)/\ (a:Int)<=aX then some (some (a:Int).toNat)else none)=_
 rw[if_pos ⟨by lia,by lia⟩];rfl
theorem d7(h:Sm x)(ha:a<=1000)(hb:b<=1000):gE (.str x) (.int (a:Int)) (.int (b:Int))=some (.str ((x.take b).drop a)):=by
 have:=dn
 show((gm (.int (a:Int))).bind λl=>(gm (.int (b:Int))).bind λu=>if x.length<=aX then some (PV.str (fV x l u))else none)=_
 rw[qk ha,qk hb]
 exact if_pos (by unfold Sm at h;lia)
theorem ql(h:Sm x)(ha:a<=1000):gE (.str x) (.int (a:Int)) .none=some (.str (x.drop a)):=by
 have:=dn
 show((gm (.int (a:Int))).bind λl=>(gm .none).bind λu=>if x.length<=aX then some (PV.str (fV x l u))else none)=_
 rw[qk ha]
 exact if_pos (by unfold Sm at h;lia)
theorem me(h:Sm x)(hb:b<=1000):gE (.str x) .none (.int (b:Int))=some (.str (x.take b)):=by
 have:=dn
 show((gm .none).bind λl=>(gm (.int (b:Int))).bind λu=>if x.length<=aX then some (PV.str (fV x l u))else none)=_
 rw[qk hb]
 exact if_pos (by unfold Sm at h;lia)
theorem iD(ha:a<=1000)(h:x[a]? =some c):fi (.str x) (.int (a:Int))=some (.str [c]):=by
 have:=dn
 show(if(0:Int)<=(a:Int)/\ (a:Int)<=aX then x[(a:Int).toNat]?.map λc=>PV.str [c]else none)=_
 rw[if_pos ⟨by lia,by lia⟩,show(a:Int).toNat=a from rfl,h];rfl
noncomputable def aK(c:Nat):Bool:=(65<=c&&c<=90)||(97<=c&&c<=122)
theorem nK(c:Nat):∀y:List Nat,ce [c] y=y.contains c
 |[]=>rfl
 |d::r=>by
  show([c].isPrefixOf (d::r)||ce [c] r)=_
  rw[nK c r,List.contains_cons]
  simp[List.isPrefixOf]
theorem Bn(c:Nat):ce [c] gr=bc c:=by
 rw[nK,show gr=[48,49,50,51,52,53,54,55,56,57] by decide+kernel]
 by_cases h:c<58
 ·exact(by decide:∀c,c<58->[48,49,50,51,52,53,54,55,56,57].contains c=bc c) c h
 ·have h1:bc c=false:=by
   unfold bc
   rw[decide_eq_false (p:=c<=57) (λq=>h (q9 q)),ke]
  rw[h1,<-mE,rH]
  exact λhm=>h ((by decide:∀x∈[48,49,50,51,52,53,54,55,56,57],x<58) c hm)
theorem Mj(c:Nat):ce [c] jL=aK c:=by
 rw[nK]
 by_cases h:c<123
 ·exact(by decide+kernel:∀c,c<123->jL.contains c=aK c) c h
 ·have h1:aK c=false:=by
   unfold aK
   rw[decide_eq_false (p:=c<=90) (λq=>h (dt q (by decide))),decide_eq_false (p:=c<=122) (λq=>h (q9 q)),ke,ke];rfl
  rw[h1,<-mE,rH]
  exact λhm=>h ((by decide+kernel:∀x∈jL,x<123) c hm)
theorem Bo:bn C .In (.str [c]) (.str gr)= .ok (bc c):=by
 show Res.ok (ce [c] gr)=_
 rw[Bn]
theorem qm:bn C .In (.str [c]) (.str jL)= .ok (aK c):=by
 show Res.ok (ce [c] jL)=_
 rw[Mj]
theorem Mk(h:(x.all bc&& !x.isEmpty&&decide (x.length<=300))=true):cW (aa "int") [.str x]=some (.int (aL x)):=by
 rw[KR]
 exact if_pos h
theorem bi:bn C .Eq (.str x) (.str y)= .ok (x==y):=rfl
theorem fD:bn C .NotEq (.str x) (.str y)= .ok (x !=y):=rfl
end
noncomputable def cw(r:List Nat):Option (List Nat×List Nat):=
 let d:=r.takeWhile bc
 if d=[] \/d.head? =some 48 then none else some (d,r.dropWhile bc)
noncomputable def dG(x r:List Nat):PV:= .int ((x.length-r.length:Nat):Int)
theorem qo{f:Nat->Bool}{x:List Nat}{p k:Nat}(hk:k=((x.drop p).takeWhile f).length):(x.take (p+k)).drop p=(x.drop p).takeWhile f/\ x.drop (p+k)=(x.drop p).dropWhile f:=by
 have h:(x.drop p).takeWhile f++(x.drop p).dropWhile f=x.drop p:=mH
 constructor
 ·rw[C1,Pl]
  conv=>lhs;rw[<-h]
  rw[hk,List.take_left'];rfl
 ·rw[<-kf]
  conv=>lhs;rw[<-h]
  rw[hk,List.drop_left'];rfl
theorem nM{f:Nat->Bool}{x:List Nat}{p i:Nat}(h1:p<=i)(h2:i<p+((x.drop p).takeWhile f).length):∃c,x[i]? =some c/\ f c=true:=by
 have hlt:i-p<((x.drop p).takeWhile f).length:=by omega
 have e:((x.drop p).takeWhile f)[i-p]? =x[i]? :=by
  have h:(x.drop p).takeWhile f++(x.drop p).dropWhile f=x.drop p:=mH
  have:(x.drop p)[i-p]? =x[i]? :=by rw[Pm];congr 1;exact DT ‹_›
  rw[<-this]
  conv=>rhs;rw[<-h]
  rw[Pn hlt]
 refine⟨((x.drop p).takeWhile f)[i-p],by rw[<-e];exact fQ hlt,?_⟩
 exact ba.mp mI _ (rE hlt)
theorem qp{f:Nat->Bool}{x:List Nat}{p c:Nat}(h:x[p+((x.drop p).takeWhile f).length]? =some c):f c=false:=by
 have e:=(qo (f:=f) (x:=x) (p:=p) rfl).2
 have:(x.drop (p+((x.drop p).takeWhile f).length))[0]? =some c:=by rw[Pm];exact h
 rw[e]at this
 cases q:(x.drop p).dropWhile f with
 |nil=>rw[q]at this;exact al this
 |cons d r=>
  rw[q]at this;obtain rfl:=aq this
  have:=List.head_dropWhile_not (p:=f) (l:=x.drop p) (by rw[q];simp)
  simpa[q] using this
section
open Lean
 def tq(s:String)(r:TSyntax `tactic):MacroM (TSyntax `tactic):=do
 let k<- `(tactic|skip)
 let mut r:=r
 let mut t:=k
 for w in (s.splitOn "/").reverse do
  let b<-match w with
   | "k" => `(tactic|kernel_rfl)
   | "d" => `(tactic|kernel_rfl!)
   | "l" => `(tactic|tb_start)
   | "s" => `(tactic|kst_p)
   | "q" => `(tactic|kpf_c)
   | "a" => `(tactic|first|assumption|rfl)
   |_=> `(tactic|with_reducible apply $(mkIdent (.mkSimple w)))
  t<- `(tactic|($b:tactic; $t))
  if w.length>1 then
   r<- `(tactic|first| $t:tactic| $r:tactic)
   t:=k
 return r
 def tqf(s:String)(r:TSyntax `tactic):MacroM (TSyntax `tactic):=do
 let t<-tq s r
 `(tactic|(focus ((repeat $t:tactic);done)))
end
end
local macro_rules | `(tactic| tb_start) => do tqf "l9/QA/qh/k/QB/jQ/k" (<- `(tactic|assumption))
local macro_rules | `(tactic| lcg_sub) => do tqf "qi/Mh/qj/k/Mi" (<- `(tactic|exact rfl))
local macro_rules | `(tactic| kst_p) => do tq "QE/QF/QK/HG/HH/yQ/QI/QJ/QG/QH" (<- `(tactic|rfl))
local macro_rules | `(tactic| kpf_c) => do tq "P3/l/k/P2/s" (<- `(tactic|fail))
local macro_rules | `(tactic| tb_rel) => do tq "P5/P6/P0/P1/A3/Qb/P2/s/P3/l/k/P4/l/k/k/a/P7/k/P8/k/P9/Qd/jM/L4/k/Qc/k/Qg/Qh/Qi/Qj/k/Qo/d/k/Qn/d/k/l/Qm/d/k/l/l/Ql/k/l/d/Qk/k/l/d/Qp/d/q/Qr/k/d/Qs/k/d/Qq/d/Bm/Qv/k/QD/QC/s/k/Qa/Qw/nH/gd/Qx/k/A9/kN/iB/L5/l7/A4" (<- `(tactic|intro _))
section
variable{C:Calls}{x:List Nat}{p:Nat}
noncomputable def dH(x r:List Nat):PV:=match cw r with
 |none=> .none
 |some (d,r')=> .tuple [.int (aL d),dG x r']
noncomputable abbrev QL:Str:=aa "text"
noncomputable abbrev QM:Str:=aa "place"
noncomputable abbrev QN:Str:=aa "end"
theorem Ml(hg:C.glob (aa "_DIGITS")=some (.str gr)) (hx:x.length<=90) (hp:p<=x.length):aN C false (ag 6) [.str x, .int (p:Int)]= .ok (dH x (x.drop p)):=by
 have hS:Sm x:=by unfold Sm;exact aV ‹_› (by rfl)
 refine dm (names:=[aa "text",aa "place"]) (by kernel_rfl) rfl ?_
 show aw _ _ [(aa "text", .str x),(aa "place", .int (p:Int))]=_
 (conv=>lhs;arg 2;whnf)
 (apply aO;(focus (apply bf;kernel_rfl;(focus ((repeat' first|tb_rel);done));lcg_sub)))
 obtain⟨m,hm⟩:∃m,m=((x.drop p).takeWhile bc).length:=⟨_,rfl⟩
 have hml:p+m<=x.length:=by
  have:=(oR (p:=bc) (l:=x.drop p)).length_le
  rw[eh]at this;lia
 have hrest:=qo (f:=bc) hm
 apply aO;focus refine l8 (nJ (λk=>[(aa "text", .str x),(aa "place", .int (p:Int)),(aa "end", .int (k:Int))]) m p _ (by unfold jB;lia) (λi h1 h2=> ?_) ?_)
 ·refine ay (nM (f:=bc) h1 (hm▸h2)) λc hc hf=> ?_
  refine⟨kg (b:=Res.ok (decide (i<x.length)&&bc c)) ?_ (by rw[hf,decide_eq_true (eN ‹_› ‹_›)];rfl),?_⟩
  ·(repeat' first|tb_rel|exact fC hS|exact jb|exact iD (by lia) hc|exact Bo)
  ·(apply aO;(focus (apply qf;tb_start;(focus ((repeat' first|tb_rel);done));(focus (first|exact cB|exact jR|exact rfl));lcg_sub)))
   exact aR
 ·by_cases hend:p+m<x.length
  ·have hc:=fQ hend
   have hf:=qp (f:=bc) (x:=x) (p:=p) (by rw[<-hm];exact hc)
   refine kg (b:=Res.ok (decide (p+m<x.length)&&bc x[p+m])) ?_ (by rw[hf,ke])
   (repeat' first|tb_rel|exact fC hS|exact jb|exact iD (ff ‹_› ‹_› (by rfl)) hc|exact Bo)
  ·refine kg (b:=Res.ok (decide (p+m<x.length)&&false)) ?_ (by rw[ke])
   refine gd (kN (nH ?_) λq=>absurd (of_decide_eq_true q) hend)
   (repeat' first|tb_rel|exact fC hS|exact jb)
 by_cases h0:m=0
 ·have hd:(x.drop p).takeWhile bc=[]:=oH (hm▸h0)
  have hv:dH x (x.drop p)= .none:=by unfold dH cw;simp only[hd];rfl
  rw[hv]
  refine aD (kO (c:=(p+m==p)||false) (gd (iB (nH ?_) λq=> ?_)) (by simp[h0]) ?_) rfl
  ·(repeat' first|tb_rel|exact kT)
  ·exact absurd q (by simp[h0])
  ·(refine aD ?_ rfl;apply a6;(focus ((repeat' first|tb_rel);done)))
   rfl
 ·refine ay (nM (f:=bc) (x:=x) (p:=p) (bO p) (by lia)) λc hc hf=> ?_
  have hlt:p<x.length:=(vR.mp hc).1
  have hcons:x.drop p=c::x.drop (p+1):=by
   rw[v4 hlt]
   congr 1
   rw[fQ hlt]at hc;exact vF hc
  have hd:(x.drop p).takeWhile bc=c::(x.drop (p+1)).takeWhile bc:=by rw[hcons,List.takeWhile_cons,if_pos hf]
  have ht:(pE C false 24).tst (cg (ag 6))=(pE C false 24).tst (cg (ag 6)):=rfl
  by_cases hz:c=48
  ·have hv:dH x (x.drop p)= .none:=by unfold dH cw;simp only[hd,hz];simp
   rw[hv]
   refine aD (kO (c:=(p+m==p)||([c]==[48])) ?_ (by simp[hz]) ?_) rfl
   ·(repeat' first|tb_rel|exact kT|exact iD (ff ‹_› ‹_› (by rfl)) hc|exact bi)
   ·(refine aD ?_ rfl;apply a6;(focus ((repeat' first|tb_rel);done)))
    rfl
  ·have hv:dH x (x.drop p)= .tuple [.int (aL ((x.drop p).takeWhile bc)), .int ((p+m:Nat):Int)]:=by
    unfold dH cw
    simp only
    rw[if_neg (by rw[hd];simp[hz])]
    show PV.tuple [_,dG x ((x.drop p).dropWhile bc)]=_
    unfold dG
    rw[<-hrest.2,eh]
    congr 4
    lia
   rw[hv,<-hrest.1]
   refine aO (jN (c:=(p+m==p)||([c]==[48])) ?_ (by simp[hz,h0]) aR) ?_
   ·(repeat' first|tb_rel|exact kT|exact iD (ff ‹_› ‹_› (by rfl)) hc|exact bi)
   ·(refine aD ?_ rfl;apply a6;(focus ((repeat' first|tb_rel|exact d7 hS (by lia) (by lia)|exact Mk (by rw[hrest.1,hd];simp[hf];have:=(oR (p:=bc) (l:=x.drop (p+1))).length_le;rw[eh]at this;lia));done)))
    rfl
end
section
noncomputable abbrev aF:=Option (List Nat)
noncomputable def aU:aF->PV
 |none=> .tuple []
 |some d=> .tuple [.int (aL d)]
noncomputable def bM(ds:List aF):PV:=if ds=[]then .none else .tuple (ds.map aU)
inductive bg where
 |none
 |one (a:List Nat)
 |two (a b:List Nat)
noncomputable def cC:bg->PV
 | .none=> .none
 | .one a=> .int (aL a)
 | .two a b=> .tuple [.int (aL a), .int (aL b)]
noncomputable def arr:Nat->List Nat->List aF×List Nat
 |0,r=>([],r)
 |n+1,r=>if r.take 1=[91]then(if r.take 2=[91,93]then(none::(arr n (r.drop 2)).1,(arr n (r.drop 2)).2)else match cw (r.drop 1)with
  |some (d,r')=>if r'.take 1=[93]then(some d::(arr n (r'.drop 1)).1,(arr n (r'.drop 1)).2)else([],r)
  |none=>([],r))else([],r)
noncomputable def bW(r:List Nat):bg×List Nat:=match cw r with
 |none=>(.none,r)
 |some (a,r1)=>if r1.take 1=[120]then(match cw (r1.drop 1)with|some (b,r2)=>(.two a b,r2)|none=>(.one a,r1))else(.one a,r1)
theorem nN{r d r':List Nat}(h:cw r=some (d,r')):r=d++r'/\ d≠[]:=by
 unfold cw at h
 simp only at h
 split at h
 ·exact al h
 ·rename_i hn
  cases aq h
  exact⟨mH.symm,λq=>hn (.inl q)⟩
theorem qr{x r d r':List Nat}{p:Nat}(hr:x.drop p=r)(h:r=d++r')(hp:p<=x.length):p+d.length<=x.length/\ x.drop (p+d.length)=r'/\ dG x r' = .int ((p+d.length:Nat):Int):=by
 have h1:r.length=x.length-p:=by rw[<-hr,eh]
 have h2:r.length=d.length+r'.length:=by rw[h,cy]
 refine⟨by omega,?_,?_⟩
 ·rw[<-kf,hr,h,List.drop_left]
 ·unfold dG
  congr 2
  omega
theorem Bp{x d r':List Nat}{p:Nat}(h:cw (x.drop p)=some (d,r'))(hp:p<=x.length):∃p',p<p'/\ p'<=x.length/\ x.drop p' =r'/\ dG x r' = .int (p':Int):=by
 refine xA (nN h) λh1 h2=> ?_
 refine bL (qr rfl h1 hp) λh3 h4 h5=> ?_
 exact⟨_,by have:=Ds.mpr h2;lia,h3,h4,h5⟩
theorem fE{x:List Nat}{p k:Nat}:(x.take (p+k)).drop p=(x.drop p).take k:=by rw[C1,Pl]
theorem QO:aU none= .tuple []:=rfl
section
variable{C:Calls}{x:List Nat}{p:Nat}{a b:PV}{xs ys:List PV}
theorem nO:fi (.tuple [a,b]) (.int 0)=some a:=by
 exact mc _ 0 (by decide)
theorem gu:fi (.tuple [a,b]) (.int 1)=some b:=by
 exact mc _ 1 (by decide)
theorem cR{v:PV}:bn C .Is v .none= .ok (match v with| .none=>true|_=>false):=by cases v<;>rfl
theorem iE{v:PV}:bn C .IsNot v .none= .ok (match v with| .none=>false|_=>true):=by cases v<;>rfl
theorem uz(h:xs.length+ys.length<=1000):bH .Add (.tuple xs) (.tuple ys)=some (.tuple (xs++ys)):=if_pos (show xs.length+ys.length<=aX by have:=dn;exact aV ‹_› (by rfl))
theorem qt(h:xs.length<=1000):d4 (.tuple xs)=some (!xs.isEmpty):=if_pos (by have:=dn;exact aV ‹_› (by rfl))
theorem Mm:cW (aa "tuple") []=some (.tuple []):=by kernel_rfl
noncomputable abbrev QP:Str:=aa "arrlist"
noncomputable abbrev QQ:Str:=aa "size"
theorem Mn(hD:∀q,q<=x.length->C.fn (aa "_parse_digits") [.str x, .int (q:Int)]= .ok (dH x (x.drop q))) (hx:x.length<=90) (hp:p<=x.length):aN C false (ag 8) [.str x, .int (p:Int)]= .ok (.tuple [cC (bW (x.drop p)).1,dG x (bW (x.drop p)).2]):=by
 have hS:Sm x:=by unfold Sm;exact aV ‹_› (by rfl)
 refine dm (names:=[aa "text",aa "place"]) (by kernel_rfl) rfl ?_
 show aw _ _ [(aa "text", .str x),(aa "place", .int (p:Int))]=_
 (conv=>lhs;arg 2;whnf)
 have h1:=hD p hp
 cases e1:cw (x.drop p)with
 |none=>
  have hv:(bW (x.drop p))=(.none,x.drop p):=by unfold bW;rw[e1]
  have hd:dH x (x.drop p)= .none:=by unfold dH;rw[e1]
  have hpl:dG x (x.drop p)= .int (p:Int):=by unfold dG;rw[eh];congr 2;lia
  rw[hd]at h1
  rw[hv]
  (apply aO;(focus (apply bf;kernel_rfl;(focus ((repeat' first|tb_rel|exact h1);done));lcg_sub)))
  (apply ch;(focus ((repeat' first|tb_rel|exact cR);done));(focus (rfl;done));(focus (exact rfl)))
  (refine aD ?_ rfl;apply a6;(focus ((repeat' first|tb_rel);done)))
  rw[hpl];rfl
 |some q=>
  obtain⟨a,r1⟩:=q
  refine wz (Bp e1 hp) λp1 g1 g2 g3 g4=> ?_
  have hd:dH x (x.drop p)= .tuple [.int (aL a), .int (p1:Int)]:=by unfold dH;rw[e1,<-g4]
  rw[hd]at h1
  (apply aO;(focus (apply bf;kernel_rfl;(focus ((repeat' first|tb_rel|exact h1);done));lcg_sub)))
  (apply br;(focus ((repeat' first|tb_rel|exact cR);done));(focus (rfl;done));(focus (exact aR)))
  have hsp:bW (x.drop p)=(if r1.take 1=[120]then(match cw (r1.drop 1)with|some (b,r2)=>(.two a b,r2)|none=>(.one a,r1))else(.one a,r1)):=by unfold bW;rw[e1]
  by_cases hx1:r1.take 1=[120]
  ·rw[if_pos hx1]at hsp
   have hp1:p1+1<=x.length:=by
    have:(r1.take 1).length=1:=by rw[hx1];rfl
    rw[<-g3,jj,eh]at this;lia
   have h2:=hD (p1+1) hp1
   have hdr:x.drop (p1+1)=r1.drop 1:=by rw[<-kf,g3]
   rw[hdr]at h2
   cases e2:cw (r1.drop 1)with
   |none=>
    have hv:(bW (x.drop p))=(.one a,r1):=by rw[hsp,e2]
    have hd2:dH x (r1.drop 1)= .none:=by unfold dH;rw[e2]
    rw[hd2]at h2
    (apply jP;(focus ((repeat' first|tb_rel|exact gu|exact cB|exact d7 hS (by lia) (by lia)|(rw[fE,g3];exact bi));done));(focus (exact beq_iff_eq.mpr hx1;done)))
    ·(apply aO;(focus (apply bf;kernel_rfl;(focus ((repeat' first|tb_rel|exact gu|exact cB|exact h2);done));lcg_sub)))
     (apply br;(focus ((repeat' first|tb_rel|exact iE);done));(focus (rfl;done));(focus (exact aR)))
     exact aR
    ·(refine aD ?_ rfl;apply a6;(focus ((repeat' first|tb_rel);done)))
     rw[hv,<-g4];rfl
   |some q=>
    obtain⟨b,r2⟩:=q
    have hv:(bW (x.drop p))=(.two a b,r2):=by rw[hsp,e2]
    have hd2:dH x (r1.drop 1)= .tuple [.int (aL b),dG x r2]:=by unfold dH;rw[e2]
    rw[hd2]at h2
    (apply ch;(focus ((repeat' first|tb_rel|exact gu|exact cB|exact d7 hS (by lia) (by lia)|(rw[fE,g3];exact bi));done));(focus (exact beq_iff_eq.mpr hx1;done));(focus (exact rfl)))
    (apply aO;(focus (apply bf;kernel_rfl;(focus ((repeat' first|tb_rel|exact gu|exact cB|exact h2);done));lcg_sub)))
    (apply ch;(focus ((repeat' first|tb_rel|exact iE);done));(focus (rfl;done));(focus (exact rfl)))
    (refine aD ?_ rfl;apply a6;(focus ((repeat' first|tb_rel|exact nO|exact gu);done)))
    rw[hv];rfl
  ·rw[if_neg hx1]at hsp
   (apply br;(focus ((repeat' first|tb_rel|exact gu|exact cB|exact d7 hS (by lia) (by lia)|(rw[fE,g3];exact bi));done));(focus (exact beq_eq_false_iff_ne.mpr hx1;done));(focus (exact aR)))
   (refine aD ?_ rfl;apply a6;(focus ((repeat' first|tb_rel);done)))
   rw[hsp,<-g4];rfl
end
end
section
theorem nQ:∀n r,∃s,r=s++(arr n r).2
 |0,r=>⟨[],rfl⟩
 |n+1,r=>by
  unfold arr
  by_cases h1:r.take 1=[91]
  ·rw[if_pos h1]
   by_cases h2:r.take 2=[91,93]
   ·rw[if_pos h2]
    refine xE (nQ n (r.drop 2)) λs hs=> ?_
    exact⟨r.take 2++s,by rw[bU,<-hs,kh]⟩
   ·rw[if_neg h2]
    cases e:cw (r.drop 1)with
    |none=>exact⟨[],rfl⟩
    |some q=>
     obtain⟨d,r'⟩:=q
     by_cases h3:r'.take 1=[93]
     ·show ∃s,r=s++(if r'.take 1=[93]then _ else _:List aF×List Nat).2
      rw[if_pos h3]
      refine xE (nQ n (r'.drop 1)) λs hs=> ?_
      refine⟨r.take 1++(d++(r'.take 1++s)),?_⟩
      rw[bU,bU,bU,<-hs,kh,<-(nN e).1,kh]
     ·show ∃s,r=s++(if r'.take 1=[93]then _ else _:List aF×List Nat).2
      rw[if_neg h3]
      exact⟨[],rfl⟩
  ·rw[if_neg h1];exact⟨[],rfl⟩
theorem Mo{ds:List aF}(h:ds.length<=900):bH .Add (.tuple (ds.map aU)) (.tuple [.tuple []])=some (.tuple ((ds++[none]).map aU)):=by
 rw[uz (by rw[cm];simp;exact aV ‹_› (by rfl)),wt];rfl
theorem Mp{ds:List aF}{d:List Nat}(h:ds.length<=900):bH .Add (.tuple (ds.map aU)) (.tuple [.tuple [.int (aL d)]])=some (.tuple ((ds++[some d]).map aU)):=by
 rw[uz (by rw[cm];simp;lia),wt];rfl
section
variable{C:Calls}{x:List Nat}{p:Nat}
theorem mh{x:List Nat}{p k:Nat}{l:List Nat}(h:(x.drop p).take k=l)(hl:l.length=k):k=0 \/p+k<=x.length:=by
 have:((x.drop p).take k).length=l.length:=by rw[h]
 rw[hl,jj,eh]at this;lia
noncomputable def Bq(tl:aj):Prop:=∀f,(f==aa "size")=false->tl.lookup f=none
inductive nR(x:List Nat)(p:Nat)(n:Nat)(ρ:aj):Prop
 |mk (q:Nat) (k:Nat) (ds:List aF) (tl:aj) (h0:n=x.length-q) (h1:q<=x.length) (h2:x.length-q<k) (h3:ρ=(aa "text", .str x)::(aa "place", .int (q:Int))::(aa "arrlist", .tuple (ds.map aU))::tl) (h4:Bq tl) (h5:ds.length<=q) (h6:arr 100 (x.drop p)=(ds++(arr k (x.drop q)).1,(arr k (x.drop q)).2)):nR x p n ρ
inductive nS(x:List Nat)(p:Nat)(ρ:aj):Prop
 |mk (q:Nat) (ds:List aF) (tl:aj) (h0:q<=x.length) (h1:ρ=(aa "text", .str x)::(aa "place", .int (q:Int))::(aa "arrlist", .tuple (ds.map aU))::tl) (h2:Bq tl) (h3:ds.length<=q) (h4:arr 100 (x.drop p)=(ds,x.drop q)):nS x p ρ
theorem Mq(hD:∀q,q<=x.length->C.fn (aa "_parse_digits") [.str x, .int (q:Int)]= .ok (dH x (x.drop q))) (hx:x.length<=90) (hp:p<=x.length):aN C false (ag 7) [.str x, .int (p:Int)]= .ok (.tuple [bM (arr 100 (x.drop p)).1,dG x (arr 100 (x.drop p)).2]):=by
 have hS:Sm x:=by unfold Sm;exact aV ‹_› (by rfl)
 refine dm (names:=[aa "text",aa "place"]) (by kernel_rfl) rfl ?_
 show aw _ _ [(aa "text", .str x),(aa "place", .int (p:Int))]=_
 (conv=>lhs;arg 2;whnf)
 (apply aO;(focus (apply bf;kernel_rfl;(focus ((repeat' first|tb_rel);done));lcg_sub)))
 refine uy
  (nR x p)
  (nS x p)
  (x.length-p) (by lia) (nR.mk p 100 ([]) ([]) rfl hp (by lia) rfl (λø ø=>rfl) (dZ _) rfl) ?_ ?_
 ·intro n ρ zn1
  obtain⟨q,k,ds,tl,rfl,hq,hk,rfl,htl,hdl,hinv⟩:=zn1
  obtain⟨k,rfl⟩:∃k',k=k'+1:=⟨k-1,rY ‹_›⟩
  have f1:=htl (aa "tuple") (by kernel_rfl)
  have f2:=htl (aa "_parse_digits") (by kernel_rfl)
  apply dk.test
  ·(repeat' first|tb_rel|exact cB|exact d7 hS (by lia) (by lia)|(rw[fE];exact bi))
  have hA:arr (k+1) (x.drop q)=(if(x.drop q).take 1=[91]then(if(x.drop q).take 2=[91,93]then(none::(arr k ((x.drop q).drop 2)).1,(arr k ((x.drop q).drop 2)).2)else match cw ((x.drop q).drop 1)with
   |some (d,r')=>if r'.take 1=[93]then(some d::(arr k (r'.drop 1)).1,(arr k (r'.drop 1)).2)else([],x.drop q)
   |none=>([],x.drop q))else([],x.drop q)):=rfl
  by_cases h1:(x.drop q).take 1=[91]
  ·rw[if_pos h1]at hA
   have hq1:q+1<=x.length:=(mh h1 rfl).resolve_left (by decide)
   by_cases h2:(x.drop q).take 2=[91,93]
   ·rw[if_pos h2]at hA
    have hq2:q+2<=x.length:=(mh h2 rfl).resolve_left (by decide)
    ·apply dk.next
     ·exact d6 rfl (beq_iff_eq.mpr h1)
     ·(apply jP;(focus ((repeat' first|tb_rel|exact jR|exact d7 hS (by lia) (by lia)|(rw[fE];exact bi));done));(focus (exact beq_iff_eq.mpr h2;done)))
      ·(apply aO;(focus (apply bf;kernel_rfl;(focus ((repeat' first|tb_rel|exact Mm|exact Mo (by lia));done));lcg_sub)))
       (apply aO;(focus (apply qf;tb_start;(focus ((repeat' first|tb_rel);done));(focus (first|exact cB|exact jR|exact rfl));lcg_sub)))
       exact aR
      ·exact aR
     rotate_left
     ·refine(nR.mk (q+2) k (ds++[none]) _ rfl hq2 (by lia) rfl ?_ (by rw[cy];simp;exact iN ‹_›) ?_)
      ·first|exact htl|exact λf q=>jQ q (htl f q)
      ·rw[hinv,hA,kf,bU];rfl
     ·lia
   ·rw[if_neg h2]at hA
    have hd:=hD (q+1) hq1
    have hdr:x.drop (q+1)=(x.drop q).drop 1:=by rw[kf]
    rw[hdr]at hd
    cases e1:cw ((x.drop q).drop 1)with
    |none=>
     have hv:dH x ((x.drop q).drop 1)= .none:=by unfold dH;rw[e1]
     rw[hv]at hd
     rw[e1]at hA
     ·apply dk.brk
      ·exact d6 rfl (beq_iff_eq.mpr h1)
      ·(apply Bl;(focus ((repeat' first|tb_rel|exact jR|exact d7 hS (by lia) (by lia)|(rw[fE];exact bi));done));(focus (exact beq_eq_false_iff_ne.mpr h2;done));(focus (exact rfl)))
       (apply aO;(focus (apply bf;kernel_rfl;(focus ((repeat' first|tb_rel|exact cB|exact hd);done));lcg_sub)))
       refine kQ (c:=true||false) (gd (iB ?_ λq=>nomatch q)) rfl (aD Bf rfl) rfl
       (repeat' first|tb_rel|exact cR)
      ·refine(nS.mk q ds _ hq rfl ?_ hdl ?_)
       ·first|exact htl|exact λf q=>jQ q (htl f q)
       ·rw[hinv,hA];simp
    |some z=>
     obtain⟨d,r1⟩:=z
     refine wz (Bp (hdr▸e1) hq1) λp1 g1 g2 g3 g4=> ?_
     have hv:dH x ((x.drop q).drop 1)= .tuple [.int (aL d), .int (p1:Int)]:=by unfold dH;rw[e1,<-g4]
     rw[hv]at hd
     rw[e1]at hA
     by_cases h3:r1.take 1=[93]
     ·have hA:arr (k+1) (x.drop q)=(some d::(arr k (r1.drop 1)).1,(arr k (r1.drop 1)).2):=by rw[hA];exact if_pos h3
      have hp1:p1+1<=x.length:=(mh (x:=x) (p:=p1) (k:=1) (l:=[93]) (by rw[g3];exact h3) rfl).resolve_left (by decide)
      have hdr1:x.drop (p1+1)=r1.drop 1:=by rw[<-kf,g3]
      ·apply dk.next
       ·exact d6 rfl (beq_iff_eq.mpr h1)
       ·apply br
        focus (repeat' first|tb_rel|exact jR|exact d7 hS (by lia) (by lia)|(rw[fE];exact bi))
        focus exact beq_eq_false_iff_ne.mpr h2
        focus
         (apply aO;(focus (apply bf;kernel_rfl;(focus ((repeat' first|tb_rel|exact cB|exact hd);done));lcg_sub)))
         (apply br;(focus ((repeat' first|tb_rel|exact cR|exact gu|exact cB|exact d7 hS (by lia) (by lia)|(rw[fE,g3];exact fD));done));(focus (rw[h3];rfl;done));(focus (exact aR)))
         (apply aO;(focus (apply bf;kernel_rfl;(focus ((repeat' first|tb_rel|exact nO|exact Mp (by lia));done));lcg_sub)))
         (apply aO;(focus (apply bf;kernel_rfl;(focus ((repeat' first|tb_rel|exact gu|exact cB);done));lcg_sub)))
         exact aR
        exact aR
       rotate_left
       ·refine(nR.mk (p1+1) k (ds++[some d]) _ rfl hp1 (by lia) rfl ?_ (by rw[cy];simp;lia) ?_)
        ·first|exact htl|exact λf q=>jQ q (htl f q)
        ·rw[hinv,hA,hdr1,bU];rfl
       ·lia
     ·have hA:arr (k+1) (x.drop q)=([],x.drop q):=by rw[hA];exact if_neg h3
      ·apply dk.brk
       ·exact d6 rfl (beq_iff_eq.mpr h1)
       ·(apply Bl;(focus ((repeat' first|tb_rel|exact jR|exact d7 hS (by lia) (by lia)|(rw[fE];exact bi));done));(focus (exact beq_eq_false_iff_ne.mpr h2;done));(focus (exact rfl)))
        (apply aO;(focus (apply bf;kernel_rfl;(focus ((repeat' first|tb_rel|exact cB|exact hd);done));lcg_sub)))
        (apply ch;(focus ((repeat' first|tb_rel|exact cR|exact gu|exact cB|exact d7 hS (by lia) (by lia)|(rw[fE,g3];exact fD));done));(focus (show(false||(r1.take 1 !=[93]))=true;simp[bne,h3];done));(focus (exact rfl)))
        exact aD Bf rfl
       ·refine(nS.mk q ds _ hq rfl ?_ hdl ?_)
        ·first|exact htl|exact λf q=>jQ q (htl f q)
        ·rw[hinv,hA];simp
  ·rw[if_neg h1]at hA
   ·refine dk.stop (d6 rfl (beq_eq_false_iff_ne.mpr h1)) (nS.mk q ds _ hq rfl ?_ hdl ?_)
    ·first|exact htl|exact λf q=>jQ q (htl f q)
    ·rw[hinv,hA];simp
 ·intro ρ zn2
  obtain⟨q,ds,tl,hq,rfl,htl,hdl,hinv⟩:=zn2
  have hpl:dG x (x.drop q)= .int (q:Int):=by unfold dG;rw[eh];congr 2;lia
  rw[hinv]
  show _=aB.ret (.tuple [bM ds,dG x (x.drop q)])
  rw[hpl]
  unfold bM
  by_cases h0:ds=[]
  ·rw[if_pos h0]
   subst h0
   ·(refine aD ?_ rfl;apply a6;(focus ((repeat' first|tb_rel|(with_reducible apply kS)|exact qt (by decide)|exact rfl);done)))
    rfl
  ·rw[if_neg h0]
   ·(refine aD ?_ rfl;apply a6;(focus ((repeat' first|tb_rel|(with_reducible apply kR)|exact qt (by rw[cm];lia)|(cases ds<;>first|rfl|exact absurd rfl h0));done)))
    rfl
end
end
section
inductive Ty where
 |bas (b:List Nat) (s:bg) (ds:List aF)
 |tup (cs:List Ty) (ds:List aF)
mutual
noncomputable def dU:Ty->PV
 | .bas b s ds=> .inst .bas [(aa "arrlist",bM ds),(aa "base", .str b),(aa "sub",cC s)]
 | .tup cs ds=> .inst .tup [(aa "arrlist",bM ds),(aa "components", .tuple (hO cs))]
noncomputable def hO:List Ty->List PV
 |[]=>[]
 |T::r=>dU T::hO r
end
theorem uA:∀cs,hO cs=cs.map dU
 |[]=>rfl
 |T::r=>by show dU T::hO r=_;rw[uA r];rfl
noncomputable def cN(f:List Nat->Option (Ty×List Nat)):Nat->List Nat->Option (List Ty×List Nat)
 |0,_=>none
 |m+1,r=>match f r with
  |none=>none
  |some (T,r1)=>if r1.take 1=[44]then(match cN f m (r1.drop 1)with|some (Ts,r2)=>some (T::Ts,r2)|none=>none)else some ([T],r1)
noncomputable def gI(f:List Nat->Option (Ty×List Nat))(r:List Nat):Option (Ty×List Nat):=match cN f 100 (r.drop 1)with
 |some (Ts,r1)=>if r1.take 1=[41]then some (.tup Ts (arr 100 (r1.drop 1)).1,(arr 100 (r1.drop 1)).2)else none
 |none=>none
noncomputable def dW:Nat->List Nat->Option (Ty×List Nat)
 |0,_=>none
 |n+1,r=>if r.take 1=[40]then gI (dW n) r else if r.takeWhile aK=[]then none else
   some (.bas (r.takeWhile aK) (bW (r.dropWhile aK)).1 (arr 100 (bW (r.dropWhile aK)).2).1,(arr 100 (bW (r.dropWhile aK)).2).2)
noncomputable def iF(x:List Nat):Option (Ty×List Nat)->PV
 |none=> .none
 |some (T,r)=> .tuple [dU T,dG x r]
noncomputable def cZ(x:List Nat):Option Ty:=match dW 64 x with
 |some (T,[])=>some T
 |_=>none
theorem Mr{cs:List Ty}{T:Ty}(h:cs.length<=900):bH .Add (.tuple (cs.map dU)) (.tuple [dU T])=some (.tuple ((cs++[T]).map dU)):=by
 rw[uz (by rw[cm];simp;exact aV ‹_› (by rfl)),wt];rfl
section
variable{C:Calls}{x:List Nat}{p:Nat}{f:List Nat->Option (Ty×List Nat)}
theorem Br{xs:List PV}:bn C .Eq (.tuple xs) (.tuple [])= .ok xs.isEmpty:=rfl
noncomputable def Bs(tl:aj):Prop:=∀f,(f==aa "found")=false->tl.lookup f=none
inductive qu(f:List Nat->Option (Ty×List Nat))(x:List Nat)(p:Nat)(n:Nat)(ρ:aj):Prop
 |mk (q:Nat) (k:Nat) (cs:List Ty) (tl:aj) (h0:n=x.length-q) (h1:p<=q) (h2:q<=x.length) (h3:x.length-q<k) (h4:ρ=(aa "text", .str x)::(aa "place", .int (q:Int))::(aa "components", .tuple (cs.map dU))::tl) (h5:Bs tl) (h6:cs.length<=q) (h7:(cs=[]->q=p)) (h8:cN f 100 ((x.drop p).drop 1)=(if cs=[] \/(x.drop q).take 1=[44]then(match cN f k ((x.drop q).drop 1)with|some (Ts,r')=>some (cs++Ts,r')|none=>none)else some (cs,x.drop q))):qu f x p n ρ
inductive uB(f:List Nat->Option (Ty×List Nat))(x:List Nat)(p:Nat)(ρ:aj):Prop
 |mk (q:Nat) (cs:List Ty) (tl:aj) (h0:q<=x.length) (h1:ρ=(aa "text", .str x)::(aa "place", .int (q:Int))::(aa "components", .tuple (cs.map dU))::tl) (h2:Bs tl) (h3:cN f 100 ((x.drop p).drop 1)=some (cs,x.drop q)):uB f x p ρ
theorem Ms(hf:∀r T r',f r=some (T,r')->∃s,r=s++r'/\ s≠[])
  (hP:∀q,p<q->q<=x.length->C.fn (aa "_parse_type") [.str x, .int (q:Int)]= .ok (iF x (f (x.drop q))))
  (hA:∀q,q<=x.length->C.fn (aa "_parse_arrlist") [.str x, .int (q:Int)]= .ok (.tuple [bM (arr 100 (x.drop q)).1,dG x (arr 100 (x.drop q)).2]))
  (hC:∀a b,C.fn (aa "TupleType") [a,b]= .ok (.inst .tup [(aa "arrlist",b),(aa "components",a)]))
  (hx:x.length<=90) (hp:p<=x.length) (h40:(x.drop p).take 1=[40]):aN C false (ag 9) [.str x, .int (p:Int)]= .ok (iF x (gI f (x.drop p))):=by
 have hS:Sm x:=by unfold Sm;exact aV ‹_› (by rfl)
 have hp1:p+1<=x.length:=(mh h40 rfl).resolve_left (by decide)
 refine dm (names:=[aa "text",aa "place"]) (by kernel_rfl) rfl ?_
 show aw _ _ [(aa "text", .str x),(aa "place", .int (p:Int))]=_
 (conv=>lhs;arg 2;whnf)
 (apply aO;(focus (apply bf;kernel_rfl;(focus ((repeat' first|tb_rel);done));lcg_sub)))
 refine uy
  (qu f x p)
  (uB f x p)
  (x.length-p) (by lia) (qu.mk p 100 ([]) ([]) rfl (bO _) hp (by lia) rfl (λø ø=>rfl) (dZ _) (λø=>rfl) ?_) ?_ ?_
 ·rw[if_pos (.inl rfl)]
  cases cN f 100 ((x.drop p).drop 1)with
  |none=>rfl
  |some z=>rfl
 ·intro n ρ zn1
  obtain⟨q,k,cs,tl,rfl,hpq,hq,hk,rfl,htl,hcl,hc0,hinv⟩:=zn1
  obtain⟨k,rfl⟩:∃k',k=k'+1:=⟨k-1,rY ‹_›⟩
  have f1:=htl (aa "_parse_type") (by kernel_rfl)
  apply dk.test
  ·(repeat' first|tb_rel|exact Br|exact cB|exact d7 hS (by lia) (by lia)|(rw[fE];exact bi))
  by_cases ht:cs=[] \/(x.drop q).take 1=[44]
  ·have hb:((cs.map dU).isEmpty||((x.drop q).take 1==[44]))=true:=by
    rcases ht with rfl|h
    ·rfl
    ·rw[gS];exact .inr (beq_iff_eq.mpr h)
   have hq1:q+1<=x.length:=by
    rcases ht with h|h
    ·rw[hc0 h];exact hp1
    ·exact(mh h rfl).resolve_left (by decide)
   rw[if_pos ht]at hinv
   have h1:=hP (q+1) (fJ ‹_›) hq1
   rw[<-kf]at h1
   cases e1:f ((x.drop q).drop 1)with
   |none=>
    rw[e1]at h1
    have hn:gI f (x.drop p)=none:=by
     unfold gI
     rw[hinv]
     unfold cN
     rw[e1]
    ·apply dk.ret
     ·exact d6 rfl (hb)
     ·(apply aO;(focus (apply bf;kernel_rfl;(focus ((repeat' first|tb_rel|exact cB|exact h1);done));lcg_sub)))
      (apply ch;(focus ((repeat' first|tb_rel|exact cR);done));(focus (rfl;done));(focus (exact rfl)))
      (refine aD ?_ rfl;apply a6;(focus ((repeat' first|tb_rel);done)))
      exact rfl
     ·rw[hn];rfl
   |some z=>
    obtain⟨T,r1⟩:=z
    refine ay (hf _ _ _ e1) λs g1 g2=> ?_
    refine bL (qr (x:=x) (p:=q+1) (by rw[<-kf]) g1 hq1) λg3 g4 g5=> ?_
    have hs:=Ds.mpr g2
    obtain⟨q1,hq1e⟩:∃q1,q1=q+1+s.length:=⟨_,rfl⟩
    rw[<-hq1e]at g3 g4 g5
    rw[e1]at h1
    have h1:C.fn (aa "_parse_type") [.str x, .int ((q+1:Nat):Int)]= .ok (.tuple [dU T, .int (q1:Int)]):=by rw[h1,<-g5];rfl
    ·apply dk.next
     ·exact d6 rfl (hb)
     ·(apply aO;(focus (apply bf;kernel_rfl;(focus ((repeat' first|tb_rel|exact cB|exact h1);done));lcg_sub)))
      (apply br;(focus ((repeat' first|tb_rel|exact cR);done));(focus (rfl;done));(focus (exact aR)))
      (apply aO;(focus (apply bf;kernel_rfl;(focus ((repeat' first|tb_rel|exact nO|exact Mr (by lia));done));lcg_sub)))
      (apply aO;(focus (apply bf;kernel_rfl;(focus ((repeat' first|tb_rel|exact gu);done));lcg_sub)))
      exact aR
     rotate_left
     ·refine(qu.mk q1 k (cs++[T]) _ rfl (by lia) g3 (by lia) rfl (λf q=>jQ q (htl f q)) (by rw[cy];simp;lia) (λq=>by simp at q) ?_)
      rw[hinv,g4]
      unfold cN
      rw[e1]
      show(match(if r1.take 1=[44]then _ else _:Option (List Ty×List Nat))with|some (Ts,r')=>some (cs++Ts,r')|none=>none)=_
      by_cases h3:r1.take 1=[44]
      ·rw[if_pos h3,if_pos (.inr h3)]
       cases k with
       |zero=>rfl
       |succ k=>
        show(match(match cN f (k+1) (r1.drop 1)with|some (Ts,r2)=>some (T::Ts,r2)|none=>none:Option (List Ty×List Nat))with|some (Ts,r')=>some (cs++Ts,r')|none=>none)=(match cN f (k+1) (r1.drop 1)with|some (Ts,r')=>some (cs++[T]++Ts,r')|none=>none)
        cases cN f (k+1) (r1.drop 1)with
        |none=>rfl
        |some z=>simp
      ·rw[if_neg h3,if_neg (by simp[h3])]
     ·lia
  ·rw[if_neg ht]at hinv
   rw[not_or]at ht
   have hb:((cs.map dU).isEmpty||((x.drop q).take 1==[44]))=false:=by
    rw[ki]
    refine⟨?_,beq_eq_false_iff_ne.mpr ht.2⟩
    cases cs with
    |nil=>exact absurd rfl ht.1
    |cons T r=>rfl
   ·apply dk.stop
    ·exact d6 rfl (hb)
    ·exact(uB.mk q cs _ hq rfl htl hinv)
 ·intro ρ zn2
  obtain⟨q,cs,tl,hq,rfl,htl,hinv⟩:=zn2
  have hT:gI f (x.drop p)=(if(x.drop q).take 1=[41]then some (.tup cs (arr 100 ((x.drop q).drop 1)).1,(arr 100 ((x.drop q).drop 1)).2)else none):=by
   unfold gI;rw[hinv]
  rw[hT]
  by_cases h1:(x.drop q).take 1=[41]
  ·rw[if_pos h1]
   have hq1:q+1<=x.length:=(mh h1 rfl).resolve_left (by decide)
   have h2:=hA (q+1) hq1
   rw[<-kf]at h2
   have f1:=htl (aa "_parse_arrlist") (by kernel_rfl)
   have f2:=htl (aa "TupleType") (by kernel_rfl)
   ·(apply br;(focus ((repeat' first|tb_rel|exact cB|exact d7 hS (by lia) (by lia)|(rw[fE];exact fD));done));(focus (rw[h1];rfl;done));(focus (exact aR)))
    apply aO
    focus
     apply iC
     focus kernel_rfl
     focus (repeat' first|tb_rel|exact cB|exact h2)
     lcg_sub
     lcg_sub
    (refine aD ?_ rfl;apply a6;(focus ((repeat' first|tb_rel|exact hC _ _);done)))
    show PV.tuple [PV.inst .tup [(_,_),(_,PV.tuple (cs.map dU))],_]= .tuple [PV.inst .tup [(_,_),(_,PV.tuple (hO cs))],_]
    rw[uA]
  ·rw[if_neg h1]
   ·(apply ch;(focus ((repeat' first|tb_rel|exact cB|exact d7 hS (by lia) (by lia)|(rw[fE];exact fD));done));(focus (simp[bne,h1];done));(focus (exact rfl)))
    (refine aD ?_ rfl;apply a6;(focus ((repeat' first|tb_rel);done)))
    rfl
end
end
section
theorem Bt(r:List Nat):∃s,r=s++(bW r).2:=by
 unfold bW
 cases e:cw r with
 |none=>exact⟨[],rfl⟩
 |some z=>
  obtain⟨a,r1⟩:=z
  obtain⟨h1,_⟩:=nN e
  show ∃s,r=s++(if r1.take 1=[120]then _ else _:bg×List Nat).2
  by_cases h:r1.take 1=[120]
  ·rw[if_pos h]
   cases e2:cw (r1.drop 1)with
   |none=>exact⟨a,h1⟩
   |some z=>
    obtain⟨b,r2⟩:=z
    obtain⟨h2,_⟩:=nN e2
    exact⟨a++(r1.take 1++b),by rw[bU,bU,<-h2,kh];exact h1⟩
  ·rw[if_neg h];exact⟨a,h1⟩
section
variable{C:Calls}{x:List Nat}{p:Nat}{f:List Nat->Option (Ty×List Nat)}
theorem Mt(n:Nat)
  (hT:(x.drop p).take 1=[40]->C.fn (aa "_parse_tuple_type") [.str x, .int (p:Int)]= .ok (iF x (gI (dW n) (x.drop p))))
  (hA:∀q,q<=x.length->C.fn (aa "_parse_arrlist") [.str x, .int (q:Int)]= .ok (.tuple [bM (arr 100 (x.drop q)).1,dG x (arr 100 (x.drop q)).2]))
  (hU:∀q,q<=x.length->C.fn (aa "_parse_sub") [.str x, .int (q:Int)]= .ok (.tuple [cC (bW (x.drop q)).1,dG x (bW (x.drop q)).2]))
  (hC:∀a b c,C.fn (aa "BasicType") [a,b,c]= .ok (.inst .bas [(aa "arrlist",c),(aa "base",a),(aa "sub",b)]))
  (hg:C.glob (aa "_LETTERS")=some (.str jL))
  (hx:x.length<=90) (hp:p<=x.length):aN C false (ag 10) [.str x, .int (p:Int)]= .ok (iF x (dW (n+1) (x.drop p))):=by
 have hS:Sm x:=by unfold Sm;exact aV ‹_› (by rfl)
 refine dm (names:=[aa "text",aa "place"]) (by kernel_rfl) rfl ?_
 show aw _ _ [(aa "text", .str x),(aa "place", .int (p:Int))]=_
 (conv=>lhs;arg 2;whnf)
 have hdef:dW (n+1) (x.drop p)=(if(x.drop p).take 1=[40]then gI (dW n) (x.drop p)else if(x.drop p).takeWhile aK=[]then none else
   some (.bas ((x.drop p).takeWhile aK) (bW ((x.drop p).dropWhile aK)).1 (arr 100 (bW ((x.drop p).dropWhile aK)).2).1,(arr 100 (bW ((x.drop p).dropWhile aK)).2).2)):=rfl
 by_cases h40:(x.drop p).take 1=[40]
 ·rw[hdef,if_pos h40]
  (apply ch;(focus ((repeat' first|tb_rel|exact cB|exact d7 hS (by lia) (by lia)|(rw[fE];exact bi));done));(focus (exact beq_iff_eq.mpr h40;done));(focus (exact rfl)))
  (refine aD ?_ rfl;apply a6;(focus ((repeat' first|tb_rel|exact hT h40);done)))
  rfl
 ·rw[if_neg h40]at hdef
  (apply br;(focus ((repeat' first|tb_rel|exact cB|exact d7 hS (by lia) (by lia)|(rw[fE];exact bi));done));(focus (exact beq_eq_false_iff_ne.mpr h40;done));(focus (exact aR)))
  (apply aO;(focus (apply bf;kernel_rfl;(focus ((repeat' first|tb_rel);done));lcg_sub)))
  obtain⟨m,hm⟩:∃m,m=((x.drop p).takeWhile aK).length:=⟨_,rfl⟩
  have hml:p+m<=x.length:=by
   have:=(oR (p:=aK) (l:=x.drop p)).length_le
   rw[eh]at this;lia
  have hrest:=qo (f:=aK) hm
  apply aO;focus refine l8 (nJ (λk=>[(aa "text", .str x),(aa "place", .int (p:Int)),(aa "end", .int (k:Int))]) m p _ (by unfold jB;lia) (λi h1 h2=> ?_) ?_)
  ·refine ay (nM (f:=aK) h1 (hm▸h2)) λc hc hf=> ?_
   refine⟨kg (b:=Res.ok (decide (i<x.length)&&aK c)) ?_ (by rw[hf,decide_eq_true (eN ‹_› ‹_›)];rfl),?_⟩
   ·(repeat' first|tb_rel|exact fC hS|exact jb|exact iD (by lia) hc|exact qm)
   ·(apply aO;(focus (apply qf;tb_start;(focus ((repeat' first|tb_rel);done));(focus (first|exact cB|exact jR|exact rfl));lcg_sub)))
    exact aR
  ·by_cases hend:p+m<x.length
   ·have hc:=fQ hend
    refine kg (b:=Res.ok (decide (p+m<x.length)&&aK x[p+m])) ?_ (by rw[(qp (f:=aK) (x:=x) (p:=p) (by rw[<-hm];exact hc)),ke])
    (repeat' first|tb_rel|exact fC hS|exact jb|exact iD (ff ‹_› ‹_› (by rfl)) hc|exact qm)
   ·refine kg (b:=Res.ok (decide (p+m<x.length)&&false)) ?_ (by rw[ke])
    refine gd (kN (nH ?_) λq=>absurd (of_decide_eq_true q) hend)
    (repeat' first|tb_rel|exact fC hS|exact jb)
  by_cases h0:m=0
  ·have hd:(x.drop p).takeWhile aK=[]:=oH (hm▸h0)
   rw[if_pos hd]at hdef
   rw[hdef]
   (apply ch;(focus ((repeat' first|tb_rel|exact kT);done));(focus (simp[h0];done));(focus (exact rfl)))
   (refine aD ?_ rfl;apply a6;(focus ((repeat' first|tb_rel);done)))
   rfl
  ·have hd:(x.drop p).takeWhile aK≠[]:=λq=>h0 (by rw[hm,q];rfl)
   rw[if_neg hd]at hdef
   have h1:=hU (p+m) hml
   rw[hrest.2]at h1
   refine xE (Bt ((x.drop p).dropWhile aK)) λs1 g1=> ?_
   refine bL (qr (x:=x) (p:=p+m) hrest.2 g1 hml) λa1 a2 a3=> ?_
   obtain⟨q1,hq1⟩:∃q1,q1=p+m+s1.length:=⟨_,rfl⟩
   rw[<-hq1]at a1 a2 a3
   rw[a3]at h1
   have h2:=hA q1 a1
   rw[a2]at h2
   refine xE (nQ 100 (bW ((x.drop p).dropWhile aK)).2) λs2 g2=> ?_
   refine bL (qr (x:=x) (p:=q1) a2 g2 a1) λb1 b2 b3=> ?_
   rw[b3]at h2
   (apply br;(focus ((repeat' first|tb_rel|exact kT);done));(focus (simp[h0];done));(focus (exact aR)))
   (apply aO;(focus (apply bf;kernel_rfl;(focus ((repeat' first|tb_rel|exact d7 hS (ff ‹_› ‹_› (by rfl)) (ff ‹_› ‹_› (by rfl)));done));lcg_sub)))
   apply aO
   focus
    apply iC
    focus kernel_rfl
    focus (repeat' first|tb_rel|exact h1)
    lcg_sub
    lcg_sub
   apply aO
   focus
    apply iC
    focus kernel_rfl
    focus (repeat' first|tb_rel|exact h2)
    lcg_sub
    lcg_sub
   (refine aD ?_ rfl;apply a6;(focus ((repeat' first|tb_rel|exact hC _ _ _);done)))
   rw[hdef,hrest.1]
   show _=PV.tuple [_,dG x (arr 100 (bW ((x.drop p).dropWhile aK)).2).2]
   rw[b3];rfl
theorem QR{x:List Nat}:iF x none= .none:=rfl
theorem jS{x y:List Nat}:bn C .In (.str x) (.str y)= .ok (ce x y):=rfl
theorem Bu{y:List Nat}:dK (.str y) (aa "str")=some true:=by kernel_rfl
theorem Bv{a b:Nat}:bn C .NotEq (.int (a:Int)) (.int (b:Int))= .ok (!(a==b)):=by
 show Res.ok (!((a:Int)==(b:Int)))=_
 congr 2
 by_cases h:a=b
 ·subst h;simp
 ·rw[beq_eq_false_iff_ne.mpr h,beq_eq_false_iff_ne];lia
theorem Bw{f:List Nat->Option (Ty×List Nat)}(hf:∀r T r',f r=some (T,r')->∃s,r=s++r'/\ s≠[]):∀m r Ts r',cN f m r=some (Ts,r')->∃s,r=s++r'
 |0,r,Ts,r',h=>nomatch h
 |m+1,r,Ts,r',h=>by
  unfold cN at h
  cases e:f r with
  |none=>rw[e]at h;exact al h
  |some z=>
   obtain⟨T,r1⟩:=z
   rw[e]at h
   refine ay (hf _ _ _ e) λs hs ø=> ?_
   have h:(if r1.take 1=[44]then(match cN f m (r1.drop 1)with|some (Ts,r2)=>some (T::Ts,r2)|none=>none)else some ([T],r1):Option (List Ty×List Nat))=some (Ts,r'):=h
   by_cases h1:r1.take 1=[44]
   ·rw[if_pos h1]at h
    cases e2:cN f m (r1.drop 1)with
    |none=>rw[e2]at h;exact al h
    |some z=>
     obtain⟨Us,r2⟩:=z
     rw[e2]at h;cases aq h
     refine xE (Bw hf m _ _ _ e2) λs2 hs2=> ?_
     exact⟨s++(r1.take 1++s2),by rw[bU,bU,<-hs2,kh];exact hs⟩
   ·rw[if_neg h1]at h;cases aq h
    exact⟨s,hs⟩
theorem Mu{f:List Nat->Option (Ty×List Nat)}(hf:∀r T r',f r=some (T,r')->∃s,r=s++r'/\ s≠[]){r:List Nat}(h0:r.take 1=[40]){T:Ty}{r':List Nat}(h:gI f r=some (T,r')):∃s,r=s++r'/\ s≠[]:=by
 unfold gI at h
 cases e:cN f 100 (r.drop 1)with
 |none=>rw[e]at h;exact al h
 |some z=>
  obtain⟨Ts,r1⟩:=z
  rw[e]at h
  have h:(if r1.take 1=[41]then some (Ty.tup Ts (arr 100 (r1.drop 1)).1,(arr 100 (r1.drop 1)).2)else none)=some (T,r'):=h
  by_cases h1:r1.take 1=[41]
  ·rw[if_pos h1]at h;cases aq h
   refine xE (Bw hf _ _ _ _ e) λs1 g1=> ?_
   refine xE (nQ 100 (r1.drop 1)) λs2 g2=> ?_
   refine⟨r.take 1++(s1++(r1.take 1++s2)),?_,by rw[h0];simp⟩
   rw[bU,bU,bU,<-g2,kh,<-g1,kh]
  ·rw[if_neg h1]at h;exact al h
theorem uC:∀n r T r',dW n r=some (T,r')->∃s,r=s++r'/\ s≠[]
 |0,r,T,r',h=>nomatch h
 |n+1,r,T,r',h=>by
  unfold dW at h
  by_cases h0:r.take 1=[40]
  ·rw[if_pos h0]at h
   exact Mu (λr T r' =>uC n r T r') h0 h
  ·rw[if_neg h0]at h
   by_cases h1:r.takeWhile aK=[]
   ·rw[if_pos h1]at h;exact al h
   ·rw[if_neg h1]at h;cases aq h
    refine xE (Bt (r.dropWhile aK)) λs1 g1=> ?_
    refine xE (nQ 100 (bW (r.dropWhile aK)).2) λs2 g2=> ?_
    refine⟨r.takeWhile aK++(s1++s2),?_,by simp[h1]⟩
    rw[bU,bU,<-g2,<-g1,mH]
theorem Mv(hT:C.fn (aa "_parse_type") [.str x, .int 0]= .ok (iF x (dW 64 x))) (hx:x.length<=90):
  aN C false (ag 11) [.str x]=(match cZ x with|some T=> .ok (dU T)|none=>if ce [40,41] x then .exc .value else .exc .parse):=by
 have hS:Sm x:=by unfold Sm;exact aV ‹_› (by rfl)
 have e0:=ma (C:=C) (gen:=false) (st:=ag 11) (args:=[.str x]) (names:=[aa "type_str"]) (o:=match cZ x with|some T=> .ret (dU T)|none=>if ce [40,41] x then .rais .value [(aa "type_str", .str x),(aa "found",iF x (dW 64 x))]else .rais .parse [(aa "type_str", .str x),(aa "found",iF x (dW 64 x))]) (by kernel_rfl) rfl ?_
 ·rw[e0]
  cases cZ x with
  |some T=>rfl
  |none=>by_cases h:ce [40,41] x<;>simp[h,jG]
 show aw _ _ [(aa "type_str", .str x)]=_
 (conv=>lhs;arg 2;whnf)
 (apply br;(focus ((repeat' first|tb_rel|exact Bu);done));(focus (rfl;done));(focus (exact aR)))
 (apply aO;(focus (apply bf;kernel_rfl;(focus ((repeat' first|tb_rel|exact hT);done));lcg_sub)))
 cases e:dW 64 x with
 |none=>
  have hn:cZ x=none:=by unfold cZ;rw[e]
  rw[hn]
  refine kQ (c:=true||false) (gd (iB ?_ λq=>nomatch q)) rfl ?_ (by by_cases h:ce [40,41] x=true<;>simp[h,aB.stops])
  ·(repeat' first|tb_rel|exact cR)
  ·by_cases h:ce [40,41] x=true
   ·rw[if_pos h]
    (apply ch;(focus ((repeat' first|tb_rel|exact jS);done));(focus (exact h;done));(focus (exact rfl)))
    refine aD ?_ rfl
    apply kP
    focus kernel_rfl
    focus (repeat' first|tb_rel)
    focus kernel_rfl
   ·rw[if_neg h]
    (apply br;(focus ((repeat' first|tb_rel|exact jS);done));(focus (simpa using h;done));(focus (exact aR)))
    refine aD ?_ rfl
    apply kP
    focus kernel_rfl
    focus (repeat' first|tb_rel)
    focus kernel_rfl
 |some z=>
  obtain⟨T,r'⟩:=z
  refine ay (uC _ _ _ _ e) λs hs ø=> ?_
  have hle:r'.length<=x.length:=by rw[hs,cy];omega
  cases r' with
  |nil=>
   have hn:cZ x=some T:=by unfold cZ;rw[e]
   rw[hn]
   (apply br;(focus ((repeat' first|tb_rel|exact cR|exact gu|exact fC hS|exact Bv);done));(focus (simp[iF,dG];done));(focus (exact aR)))
   (refine aD ?_ rfl;apply a6;(focus ((repeat' first|tb_rel|exact nO);done)))
   rfl
  |cons c r=>
   have hn:cZ x=none:=by unfold cZ;rw[e]
   rw[hn]
   refine kQ (c:=false|| !((x.length-(c::r).length:Nat)==x.length)) (gd (iB ?_ λq=>A9 ?_)) (by simp at hle ⊢;omega) ?_ (by by_cases h:ce [40,41] x=true<;>simp[h,aB.stops])
   ·(repeat' first|tb_rel|exact cR)
   ·(repeat' first|tb_rel|exact gu|exact fC hS|exact Bv)
   ·by_cases h:ce [40,41] x=true
    ·rw[if_pos h]
     (apply ch;(focus ((repeat' first|tb_rel|exact jS);done));(focus (exact h;done));(focus (exact rfl)))
     refine aD ?_ rfl
     apply kP
     focus kernel_rfl
     focus (repeat' first|tb_rel)
     focus kernel_rfl
    ·rw[if_neg h]
     (apply br;(focus ((repeat' first|tb_rel|exact jS);done));(focus (simpa using h;done));(focus (exact aR)))
     refine aD ?_ rfl
     apply kP
     focus kernel_rfl
     focus (repeat' first|tb_rel)
     focus kernel_rfl
end
end
section
theorem gJ{α:Type}{E:Ev}{csc:Scope}{x:Str}{elt:ai}(m:α->PV)(l:List α)(t:α->PV)(hs:(g7 csc&&bQ csc x&&x !=aa ".0")=true) (h:∀a∈l,E.ev csc elt [(x,m a)]= .ok (t a)):cj E csc x elt [] (l.map m)= .ok (l.map t):=by
 unfold cj
 rw[if_pos hs,uw (f:=iv E csc x []) (λa ø=>rfl)]
 show b4 (fm _ (l.map m))=_
 have:fm (λv=>E.ev csc elt [(x,v)]) (l.map m)= .ok (l.map t):=by
  clear hs
  induction l with
  |nil=>rfl
  |cons a r ih=>
   show(E.ev csc elt [(x,m a)]).bind _=_
   rw[h a (.head _)]
   show(fm _ (r.map m)).bind _=_
   rw[ih λb hb=>h b (.tail _ hb)];rfl
 rw[this];rfl
theorem mi{α:Type}{E:Ev}{csc:Scope}{x:Str}{elt e:ai}(m:α->PV)(l:List α)(f:α->Bool)(hs:(g7 csc&&bQ csc x&&x !=aa ".0")=true) (hf:∀a∈l,E.tst csc e [(x,m a)]= .ok (f a)) (h:∀a∈l,E.ev csc elt [(x,m a)]= .ok (m a)):cj E csc x elt [e] (l.map m)= .ok ((l.filter f).map m):=by
 unfold cj
 have h1:iu (iv E csc x [e]) (l.map m)= .ok ((l.filter f).map m):=by
  clear h
  induction l with
  |nil=>rfl
  |cons a r ih=>
   show(E.tst csc e [(x,m a)]).bind _=_
   rw[hf a (.head _)]
   rw[ih λb hb=>hf b (.tail _ hb),vX]
   cases f a<;>rfl
 rw[if_pos hs,h1]
 show b4 (fm _ ((l.filter f).map m))=_
 have h2:∀k:List α,(∀a∈k,a∈l)->fm (λv=>E.ev csc elt [(x,v)]) (k.map m)= .ok (k.map m):=λk=>by
  induction k with
  |nil=>intro ø;rfl
  |cons a r ih=>
   intro hk
   show(E.ev csc elt [(x,m a)]).bind _=_
   rw[h a (hk a (.head _))]
   show(fm _ (r.map m)).bind _=_
   rw[ih λb hb=>hk b (.tail _ hb)];rfl
 rw[h2 _ λa ha=>(Da.mp ha).1];rfl
section
variable{C:Calls}{g:Bool}{k:Nat}{sc:Scope}{ρ:aj}{o:aB}
theorem Bx{body:aj->aB}{x:Str}(I:Nat->aj->Prop):∀(items:List PV) (a:Nat) (ρ:aj),I a ρ->(∀i v ρ,items[i]? =some v->I (a+i) ρ->∃ρ',body (aP x v ρ)= .next ρ'/\ I (a+i+1) ρ')->∃ρ',cX body x items ρ= .next ρ'/\ I (a+items.length) ρ'
 |[],a,ρ,h0,_=>⟨ρ,rfl,h0⟩
 |v::r,a,ρ,h0,hs=>by
  refine ay (hs 0 v ρ rfl h0) λρ1 e1 h1=> ?_
  obtain⟨ρ2,e2,h2⟩:=Bx I r (a+1) ρ1 h1 (λi w ρ e h=>by
   have:=hs (i+1) w ρ e (by rw[show a+(i+1)=a+1+i by lia];exact h)
   rw[show a+(i+1)+1=a+1+i+1 by exact lc _ _ _]at this;exact this)
  exact⟨ρ2,Bk rfl e1 e2,by rw[gj,show a+(r.length+1)=a+1+r.length by lia];exact h2⟩
theorem Mw{x px it b p v items r}(I:Nat->aj->Prop)(hc:(bQ sc x&&cQ it)=true)(h:(pE C g 24).ev sc it ρ= .ok v)(hi:bP v=some items)(h0:I 0 ρ)(step:∀i v ρ,items[i]? =some v->I i ρ->∃ρ',aw (pX C g k sc) b (aP x v ρ)= .next ρ'/\ I (i+1) ρ')(hr:∀ρ',I items.length ρ'->aw (pX C g (k+1) sc) r ρ' =o):aw (pX C g (k+1) sc) (.For (.Name x px) it b [] p::r) ρ=o:=by
 obtain⟨ρ',e,h'⟩:=Bx (body:=aw (pX C g k sc) b) (x:=x) I items 0 ρ h0 (λi v ρ e q=>by
  have:=step i v ρ e (by rw[fK]at q;exact q)
  rwa [fK])
 rw[fK]at h'
 exact aO (Bd hc h hi e) (hr ρ' h')
theorem Mx{P:aB}{I:aj->Prop}{ρ':aj}(h:P= .next ρ')(hi:I ρ'):∃ρ',P= .next ρ'/\ I ρ':=⟨ρ',h,hi⟩
theorem My{v:PV}{ρ ρ1:aj}{s:Str}{ex:aC->aj->aB}{b:List aC}{o:aB}(h:aP s v ρ=ρ1)(hb:aw ex b ρ1=o):aw ex b (aP s v ρ)=o:=h▸hb
end
noncomputable def aQ(t:List Nat):Bool:= !t.isEmpty&&t.head? !=some 48&&t.all bc
noncomputable def cE(t:List Nat):PV:=if aQ t then .int (aL t)else .none
section
variable{C:Calls}{t:List Nat}{c:Nat}
theorem uD(h:Sm t):bP (.str t)=some (t.map λc=> .str [c]):=if_pos (by have:=dn;unfold Sm at h;exact aV ‹_› (by rfl))
theorem nT{xs:List PV}(h:xs.length<=1000):bP (.list xs)=some xs:=if_pos (by have:=dn;exact aV ‹_› (by rfl))
theorem hW{xs:List PV}(h:xs.length<=1000):bP (.tuple xs)=some xs:=if_pos (by have:=dn;exact aV ‹_› (by rfl))
theorem By:bn C .NotIn (.str [c]) (.str gr)= .ok (!bc c):=by
 show Res.ok (!ce [c] gr)=_
 rw[Bn]
theorem nU{xs:List PV}:bn C .NotEq (.list xs) (.list [])= .ok (!xs.isEmpty):=rfl
theorem uE{r:List Nat}:fi (.str (c::r)) (.int 0)=some (.str [c]):=by
 show(if(0:Int)<=0/\ (0:Int)<=aX then _ else none)=_
 exact if_pos (by have:=dn;lia)
theorem Mz(h:bc c=true):iT [c] gr 0=some (c-48):=by
 rw[show gr=[48,49,50,51,52,53,54,55,56,57] by decide+kernel]
 unfold bc at h
 simp only[aI,decide_eq_true_eq]at h
 have:c=48 \/c=49 \/c=50 \/c=51 \/c=52 \/c=53 \/c=54 \/c=55 \/c=56 \/c=57:=DW ‹_›
 rcases this with rfl|rfl|rfl|rfl|rfl|rfl|rfl|rfl|rfl|rfl<;>decide
theorem MA(h:bc c=true):ci (aa "index") gr [.str [c]]=some (.int ((c:Int)-48)):=by
 rw[KZ]
 show(iT [c] gr 0).map _=_
 rw[Mz h]
 show some (PV.int ((c-48:Nat):Int))=_
 unfold bc at h
 simp only[aI,decide_eq_true_eq]at h
 congr 2;exact DY ‹_›
noncomputable def gK(s:List Nat)(a:Nat):Nat:=s.foldl (λacc c=>acc*10+(c-48)) a
theorem uF:∀(s:List Nat) (a k:Nat),s.all bc=true->a<10^k->gK s a<10^(k+s.length)
 |[],a,k,_,h1=>h1
 |c::r,a,k,h,h1=>by
  rw[gV,aI]at h
  have hc:=h.1
  unfold bc at hc
  simp only[aI,decide_eq_true_eq]at hc
  have hp:10^(k+1)=10^k*10:=Nat.pow_succ 10 k
  have:=uF r (a*10+(c-48)) (k+1) h.2 (by omega)
  rw[gj,show k+(r.length+1)=k+1+r.length by omega]
  exact this
theorem MB{a k:Nat}(h1:a<10^k)(hk:k<=100):bH .Mult (.int (a:Int)) (.int 10)=some (.int ((a*10:Nat):Int)):=by
 have h2:10^k<=10^100:=Po (by decide) hk
 have h3:a<=ir:=fM (eN (eN h1 h2) (by decide+kernel))
 show(if(small (a:Int)&&small 10)=true then some (PV.int ((a:Int)*10))else none)=_
 rw[if_pos]
 ·rfl
 ·rw[aI]
  exact⟨decide_eq_true h3,by decide+kernel⟩
theorem MC{a:Nat}(h:bc c=true):bH .Add (.int (a:Int)) (.int ((c:Int)-48))=some (.int ((a+(c-48):Nat):Int)):=by
 unfold bc at h
 simp only[aI,decide_eq_true_eq]at h
 show some (PV.int ((a:Int)+((c:Int)-48)))=_
 congr 2;omega
theorem MD(hx:t.length<=90):aN C false (ag 21) [.str t]= .ok (cE t):=by
 have hS:Sm t:=by unfold Sm;exact aV ‹_› (by rfl)
 refine dm (names:=[aa "text"]) (by kernel_rfl) rfl ?_
 show aw _ _ [(aa "text", .str t)]=_
 (conv=>lhs;arg 2;whnf)
 cases t with
 |nil=>
  refine kQ (c:=(([]:List Nat)==[])||false) (gd (iB ?_ λq=>absurd q (by decide))) rfl ?_ rfl
  ·(repeat' first|tb_rel|exact bi)
  ·(refine aD ?_ rfl;apply a6;(focus ((repeat' first|tb_rel);done)))
   rfl
 |cons c r=>
  by_cases hc:c=48
  ·refine kQ (c:=((c::r)==[])||(([c]==[48])||false)) (gd (iB ?_ λq=>iB ?_ λq=> ?_)) (by simp[hc]) ?_ rfl
   ·(repeat' first|tb_rel|exact bi)
   ·(repeat' first|tb_rel|exact uE|exact bi)
   ·rw[hc]at q;exact absurd q (by decide)
   ·(refine aD ?_ rfl;apply a6;(focus ((repeat' first|tb_rel);done)))
    unfold cE aQ
    simp[hc]
  ·cases ha:(c::r).all bc with
   |false=>
    have hb:(!((((c::r).filter λc=> !bc c).map λc=>PV.str [c]).isEmpty))=true:=by
     refine ay (List.all_eq_false.mp ha) λd hd hf=> ?_
     cases q:(c::r).filter λc=> !bc c with
     |nil=>have:=wu.mp q d hd;simp at this;simp[this]at hf
     |cons e s=>rfl
    (apply ch;(focus ((repeat' first|tb_rel|exact bi|exact uE|(with_reducible apply i9;kernel_rfl)|exact uD hS|(refine mi (λc=> .str [c]) _ (λc=> !bc c) (by kernel_rfl) ?_ ?_)|exact By|exact nU);done));(focus (rw[hb];simp;done));(focus (exact rfl)))
    (refine aD ?_ rfl;apply a6;(focus ((repeat' first|tb_rel);done)))
    unfold cE aQ
    simp[ha]
   |true=>
    have hb:(!((((c::r).filter λc=> !bc c).map λc=>PV.str [c]).isEmpty))=false:=by
     have:(c::r).filter (λc=> !bc c)=[]:=wu.mpr λd hd=>by
      rw[ba.mp ha d hd];simp
     rw[this];rfl
    (apply br;(focus ((repeat' first|tb_rel|exact bi|exact uE|(with_reducible apply i9;kernel_rfl)|exact uD hS|(refine mi (λc=> .str [c]) _ (λc=> !bc c) (by kernel_rfl) ?_ ?_)|exact By|exact nU);done));(focus (rw[hb];simp[hc];done));(focus (exact aR)))
    (apply aO;(focus (apply bf;kernel_rfl;(focus ((repeat' first|tb_rel);done));lcg_sub)))
    refine Mw (items:=(c::r).map λc=> .str [c]) (λi ρ=>∃tl,ρ=(aa "text", .str (c::r))::(aa "number", .int (gK ((c::r).take i) 0:Nat))::tl/\ (tl=[] \/∃w,tl=[(aa "sign",w)])) (by kernel_rfl) (by(repeat' first|tb_rel)) (uD hS) ⟨[],rfl, .inl rfl⟩ ?_ ?_
    ·intro i v ρ hv zn1
     obtain⟨tl,rfl,htl⟩:=zn1
     rw[ll]at hv
     cases hd:(c::r)[i]? with
     |none=>rw[hd]at hv;exact al hv
     |some d=>
      rw[hd]at hv;obtain rfl:=aq hv
      have hlt:i<(c::r).length:=(vR.mp hd).1
      have hf:bc d=true:=ba.mp ha d (Db hd)
      have hb:=uF ((c::r).take i) 0 0 (ba.mpr λz hz=>ba.mp ha z (wo hz)) (by decide)
      have hn:gK ((c::r).take (i+1)) 0=gK ((c::r).take i) 0*10+(d-48):=by
       unfold gK
       rw[v0,hd,lr];rfl
      rw[hn]
      rcases htl with rfl|⟨w,rfl⟩
      all_goals
       apply Mx
       ·apply My
        lcg_sub
        (apply aO;(focus (apply bf;kernel_rfl;(focus ((repeat' first|tb_rel|exact MB hb (by rw[fK,jj];lia)|exact MA hf|exact MC hf);done));lcg_sub)))
        exact aR
       ·exact⟨_,rfl, .inr ⟨_,rfl⟩⟩
    ·intro ρ' zn2
     obtain⟨tl,rfl,htl⟩:=zn2
     rw[cm,CZ]
     have hv:cE (c::r)= .int (gK (c::r) 0:Nat):=by
      have hn:aQ (c::r)=true:=by unfold aQ;rw[ha];simp[hc]
      unfold cE aL
      rw[if_pos hn]
      congr 1
      exact pt _ 0 λd hd=>by
       have:=ba.mp ha d hd
       unfold bc at this
       simp only[aI,decide_eq_true_eq]at this
       exact this.1
     rw[hv]
     rcases htl with rfl|⟨w,rfl⟩
     all_goals
      (refine aD ?_ rfl;apply a6;(focus ((repeat' first|tb_rel);done)))
      rfl
end
end
section
theorem qv(c:Nat):∀s:List Nat,∀p∈bJ c s,p.length<=s.length
 |[],p,h=>by
  rw[show bJ c []=[[]]from rfl,du]at h;subst h;exact bO _
 |d::r,p,h=>by
  unfold bJ at h
  by_cases hd:d=c
  ·rw[if_pos hd]at h
   rcases bR.mp h with rfl|h
   ·exact dZ _
   ·exact Dh (qv c r p h)
  ·rw[if_neg hd]at h
   cases e:bJ c r with
   |nil=>
    rw[e]at h
    have h:p∈[[d]]:=h
    rw[du]at h;subst h;simp
   |cons w ws=>
    rw[e]at h
    have h:p∈(d::w)::ws:=h
    rcases bR.mp h with rfl|h
    ·have:=qv c r w (by rw[e];exact .head _)
     simp;exact‹_›
    ·have:=qv c r p (by rw[e];exact .tail _ h)
     simp;exact iN ‹_›
theorem Bz(c:Nat):∀s:List Nat,(bJ c s).length<=s.length+1/\ bJ c s≠[]
 |[]=>by constructor<;>simp[bJ]
 |d::r=>by
  refine xA (Bz c r) λh1 h2=> ?_
  unfold bJ
  by_cases hd:d=c
  ·rw[if_pos hd];simp;omega
  ·rw[if_neg hd]
   cases e:bJ c r with
   |nil=>exact absurd e h2
   |cons w ws=>rw[e]at h1;simp at h1 ⊢;exact iN ‹_›
noncomputable def iG(l:List (List Nat)):Option bg:=match l with
 |[]=>none
 |a::r=>match r with
  |[]=>if aQ a=true then some (.one a)else none
  |b::r=>if(r.isEmpty&&aQ a&&aQ b)=true then some (.two a b)else none
noncomputable def eV(t:List Nat):Option (List Nat×bg):=
 if t.takeWhile aK=[]then none else if t.dropWhile aK=[]then some (t.takeWhile aK, .none)else(iG (bJ 120 (t.dropWhile aK))).map λs=>(t.takeWhile aK,s)
theorem ME{l:List (List Nat)}(h:l.length>2):iG l=none:=by
 cases l with
 |nil=>rfl
 |cons a r=>cases r with
  |nil=>exact absurd h (Nat.not_lt_of_le (mG 1))
  |cons b r=>cases r with
   |nil=>exact absurd h (jg 2)
   |cons=>rfl
theorem uG{l:List (List Nat)}{s:bg}(h:iG l=some s):(∃a,l=[a]/\ aQ a=true/\ s= .one a) \/∃a b,l=[a,b]/\ aQ a=true/\ aQ b=true/\ s= .two a b:=by
 cases l with
 |nil=>exact al h
 |cons a r=>cases r with
  |nil=>
   refine xA (ek h) λh1 h2=> ?_
   exact .inl ⟨a,rfl,h1,h2.symm⟩
  |cons b r=>
   refine xA (ek h) λh1 h2=> ?_
   refine xA (ei h1) λh1 h3=> ?_
   refine xA (ei h1) λh1 h4=> ?_
   exact .inr ⟨a,b,by rw[gR.mp h1],h4,h3,h2.symm⟩
theorem MF{l:List (List Nat)}{s:bg}(h:iG l=some s):(l.any λp=> !aQ p)=false:=by
 rcases uG h with ⟨a,rfl,h1,_⟩|⟨a,b,rfl,h1,h2,_⟩
 ·show(!aQ a||false)=false;rw[h1];rfl
 ·show(!aQ a||(!aQ b||false))=false;rw[h1,h2];rfl
theorem MG{l:List (List Nat)}(h:(l.any λp=> !aQ p)=true):iG l=none:=by
 cases q:iG l with
 |none=>rfl
 |some s=>rw[MF q]at h;exact bV h
theorem MH{l:List (List Nat)}(h0:l≠[])(h2:¬l.length>2)(h:(l.any λp=> !aQ p)=false):∃s,iG l=some s:=by
 cases l with
 |nil=>exact absurd rfl h0
 |cons a r=>
  have h:=ki.mp h
  have ha:aQ a=true:=by rw[Dt]at h;exact h.1
  cases r with
  |nil=>exact⟨_,if_pos ha⟩
  |cons b r=>
   have hb:aQ b=true:=by have:=(ki.mp h.2).1;rwa [Dt]at this
   cases r with
   |nil=>exact⟨_,if_pos (by rw[ha,hb];rfl)⟩
   |cons=>exact absurd (cV 3 _) h2
noncomputable def uH:Option (List Nat×bg)->PV
 |none=> .none
 |some (b,s)=> .list [.str (an (aa "name")), .str b,cC s]
section
variable{C:Calls}{t:List Nat}{xs:List PV}
theorem nV(h:xs.length<=1000):cW (aa "len") [.list xs]=some (.int (xs.length:Nat)):=by
 have:=dn
 rw[pR]
 exact if_pos (aV ‹_› (by rfl))
theorem uI{n:Nat}:bn C .Gt (.int (n:Int)) (.int 2)= .ok (decide (n>2)):=by
 show Res.ok (decide ((n:Int)>2))=_
 congr 1
 by_cases h:n>2
 ·rw[decide_eq_true h,decide_eq_true];omega
 ·rw[decide_eq_false h,decide_eq_false];omega
theorem BA{n:Nat}:bn C .Eq (.int (n:Int)) (.int 1)= .ok (n==1):=kT (a:=n) (b:=1)
theorem uJ{n:Nat}:bn C .Eq (.int (n:Int)) (.int 0)= .ok (n==0):=kT (a:=n) (b:=0)
theorem ge{a:PV}{r:List PV}:fi (.list (a::r)) (.int 0)=some a:=by
 exact mc _ 0 (by decide)
theorem gL{a b:PV}{r:List PV}:fi (.list (a::b::r)) (.int 1)=some b:=by
 exact mc _ 1 (by decide)
theorem uK{a b c:PV}{r:List PV}:fi (.list (a::b::c::r)) (.int 2)=some c:=by
 exact mc _ 2 (by decide)
theorem MI(h:Sm t){c:Nat}:ci (aa "split") t [.str [c]]=some (.list ((bJ c t).map .str)):=by
 rw[KY]
 exact if_pos (by have:=dn;unfold Sm at h;exact aV ‹_› (by rfl))
theorem BB(ps:List (List Nat)):bn C .In .none (.list (ps.map cE))= .ok (ps.any λp=> !aQ p):=by
 have h1:(PV.none.flat 4&&(ps.map cE).all (PV.flat 4))=true:=by
  rw[aI]
  refine⟨rfl,ba.mpr λv hv=> ?_⟩
  refine ay (ij.mp hv) λp ø zq2=> ?_;subst zq2
  unfold cE
  by_cases h:aQ p=true
  ·rw[if_pos h];rfl
  ·rw[if_neg h];rfl
 show aE (if(PV.none.flat 4&&(ps.map cE).all (PV.flat 4))=true then some ((ps.map cE).any λy=>y.same .none)else none)=_
 rw[if_pos h1]
 show Res.ok _=_
 congr 1
 rw[wv]
 congr 1
 funext p
 unfold cE
 by_cases h:aQ p=true
 ·show(if aQ p=true then PV.int (aL p)else .none).same .none=_
  rw[if_pos h,h];rfl
 ·show(if aQ p=true then PV.int (aL p)else .none).same .none=_
  rw[if_neg h,vS.mpr h];rfl
theorem QS(h:Sm t){a:Nat}(ha:a<=1000):gE (.str t) (.int (a:Int)) .none=some (.str (t.drop a)):=ql h ha
theorem MJ(hN:∀s:List Nat,s.length<=90->C.fn (aa "_law_number") [.str s]= .ok (cE s)) (hx:t.length<=90):aN C false (ag 23) [.str t]= .ok (uH (eV t)):=by
 have hS:Sm t:=by unfold Sm;exact aV ‹_› (by rfl)
 refine dm (names:=[aa "text"]) (by kernel_rfl) rfl ?_
 show aw _ _ [(aa "text", .str t)]=_
 (conv=>lhs;arg 2;whnf)
 (apply aO;(focus (apply bf;kernel_rfl;(focus ((repeat' first|tb_rel);done));lcg_sub)))
 obtain⟨m,hm⟩:∃m,m=((t.drop 0).takeWhile aK).length:=⟨_,rfl⟩
 have hml:0+m<=t.length:=by
  have:=(oR (p:=aK) (l:=t.drop 0)).length_le
  rw[eh]at this;lia
 have hrest:=qo (f:=aK) hm
 apply aO;focus refine l8 (nJ (λk=>[(aa "text", .str t),(aa "size", .int (k:Int))]) m 0 _ (by unfold jB;lia) (λi h1 h2=> ?_) ?_)
 ·refine ay (nM (f:=aK) h1 (hm▸h2)) λc hc hf=> ?_
  refine⟨kg (b:=Res.ok (decide (i<t.length)&&aK c)) ?_ (by rw[hf,decide_eq_true (eN ‹_› ‹_›)];rfl),?_⟩
  ·(repeat' first|tb_rel|exact fC hS|exact jb|exact iD (by lia) hc|exact qm)
  ·(apply aO;(focus (apply qf;tb_start;(focus ((repeat' first|tb_rel);done));(focus (first|exact cB|exact jR|exact rfl));lcg_sub)))
   exact aR
 ·by_cases hend:0+m<t.length
  ·have hc:=fQ hend
   refine kg (b:=Res.ok (decide (0+m<t.length)&&aK t[0+m])) ?_ (by rw[(qp (f:=aK) (x:=t) (p:=0) (by rw[<-hm];exact hc)),ke])
   (repeat' first|tb_rel|exact fC hS|exact jb|exact iD (ff ‹_› ‹_› (by rfl)) hc|exact qm)
  ·refine kg (b:=Res.ok (decide (0+m<t.length)&&false)) ?_ (by rw[ke])
   refine gd (kN (nH ?_) λq=>absurd (of_decide_eq_true q) hend)
   (repeat' first|tb_rel|exact fC hS|exact jb)
 rw[gz,gz]at hrest
 rw[gz]at hm
 rw[fK]at hrest hml ⊢
 (apply aO;(focus (apply bf;kernel_rfl;(focus ((repeat' first|tb_rel|(rw[ql hS (ff ‹_› ‹_› (by rfl)),hrest.2]));done));lcg_sub)))
 have hnm:eV t=(if t.takeWhile aK=[]then none else if t.dropWhile aK=[]then some (t.takeWhile aK, .none)else(iG (bJ 120 (t.dropWhile aK))).map λs=>(t.takeWhile aK,s)):=rfl
 have htk:t.take m=t.takeWhile aK:=hrest.1
 by_cases hb:t.takeWhile aK=[]
 ·have h0:m=0:=by rw[hm,hb];rfl
  rw[if_pos hb]at hnm
  rw[hnm]
  (apply ch;(focus ((repeat' first|tb_rel|exact uJ);done));(focus (simp[h0];done));(focus (exact rfl)))
  (refine aD ?_ rfl;apply a6;(focus ((repeat' first|tb_rel);done)))
  rfl
 ·have h0:m≠0:=λq=>hb (oH (hm▸q))
  rw[if_neg hb]at hnm
  (apply br;(focus ((repeat' first|tb_rel|exact uJ);done));(focus (simp[h0];done));(focus (exact aR)))
  by_cases hr:t.dropWhile aK=[]
  ·rw[if_pos hr]at hnm
   rw[hnm]
   have ht:t.takeWhile aK=t:=by
    have:=mH (p:=aK) (l:=t)
    rwa [hr,j9]at this
   (apply ch;(focus ((repeat' first|tb_rel|exact bi);done));(focus (rw[hr];rfl;done));(focus (exact rfl)))
   (refine aD ?_ rfl;apply a6;(focus ((repeat' first|tb_rel);done)))
   rw[ht];rfl
  ·rw[if_neg hr]at hnm
   (apply br;(focus ((repeat' first|tb_rel|exact bi);done));(focus (exact beq_eq_false_iff_ne.mpr hr;done));(focus (exact aR)))
   have hrl:(t.dropWhile aK).length<=t.length:=(List.dropWhile_sublist _).length_le
   have hSr:Sm (t.dropWhile aK):=by unfold Sm;exact ao ‹_› ‹_›
   have hcnt:=Bz 120 (t.dropWhile aK)
   have hsl:=qv 120 (t.dropWhile aK)
   obtain⟨ps,hps⟩:∃ps,ps=bJ 120 (t.dropWhile aK):=⟨_,rfl⟩
   apply aO
   focus
    apply L9
    focus kernel_rfl
    focus
     (with_reducible apply i9)
     focus kernel_rfl
     (focus ((repeat' first|tb_rel|exact MI hSr)))
     (focus (exact nT (by rw[cm];lia)))
     (focus (refine gJ PV.str _ cE (by kernel_rfl) (λa ha=> ?_);have hal:=hsl a ha;(repeat' first|tb_rel|exact hN _ (by lia))))
    lcg_sub
   rw[<-hps]at hcnt hsl hnm ⊢
   have hlen:(ps.map cE).length<=1000:=by rw[cm];lia
   by_cases h2:ps.length>2
   ·have hn:eV t=none:=by rw[hnm,ME h2];rfl
    rw[hn]
    refine kQ (c:=decide ((ps.map cE).length>2)||false) (gd (iB ?_ λq=>absurd q ?_)) (by rw[cm];simp[h2]) ?_ rfl
    ·(repeat' first|tb_rel|exact nV hlen|exact uI)
    ·rw[cm];simp[h2]
    ·(refine aD ?_ rfl;apply a6;(focus ((repeat' first|tb_rel);done)))
     rfl
   ·cases ha:ps.any (λp=> !aQ p)with
    |true=>
     have hn:eV t=none:=by rw[hnm,MG ha];rfl
     rw[hn]
     (apply ch;(focus ((repeat' first|tb_rel|exact nV hlen|exact uI|exact BB ps);done));(focus (rw[ha];simp;done));(focus (exact rfl)))
     (refine aD ?_ rfl;apply a6;(focus ((repeat' first|tb_rel);done)))
     rfl
    |false=>
     (apply br;(focus ((repeat' first|tb_rel|exact nV hlen|exact uI|exact BB ps);done));(focus (rw[ha,cm];simp;exact Nat.le_of_not_lt ‹_›;done));(focus (exact aR)))
     refine xE (MH hcnt.2 h2 ha) λs hs=> ?_
     rw[hs]at hnm
     rw[hnm]
     rcases uG hs with ⟨a,rfl,h3,rfl⟩|⟨a,b,rfl,h3,h4,rfl⟩
     ·have hpv:cE a= .int (aL a):=by unfold cE;rw[if_pos h3]
      (refine aD ?_ rfl;apply a6;(focus ((repeat' first|tb_rel|(with_reducible apply kR)|exact nV (by decide)|exact BA|exact ge|(rw[me hS (ff ‹_› ‹_› (by rfl)),htk])|exact rfl);done)))
      rw[hpv];rfl
     ·have hpv:cE a= .int (aL a):=by unfold cE;rw[if_pos h3]
      have hpw:cE b= .int (aL b):=by unfold cE;rw[if_pos h4]
      (refine aD ?_ rfl;apply a6;(focus ((repeat' first|tb_rel|(with_reducible apply kS)|exact nV (by decide)|exact BA|exact ge|exact gL|(rw[me hS (ff ‹_› ‹_› (by rfl)),htk])|exact rfl);done)))
      rw[hpv,hpw];rfl
end
end
section
noncomputable def cx(t:List Nat):Nat:=t.length-1-(t.reverse.takeWhile (λc=>c !=91)).length
noncomputable def cF(t:List Nat):List Nat:=(t.take (t.length-1)).drop (cx t+1)
noncomputable def eW(t:List Nat):Bool:=[93].isSuffixOf t&&ce [91] t
noncomputable def eK:Nat->List Nat->List aF->Option (List Nat×List aF)
 |0,_,_=>none
 |n+1,t,ds=>if eW t=true then(if cF t=[]then eK n (t.take (cx t)) (none::ds)else if aQ (cF t)=true then eK n (t.take (cx t)) (some (cF t)::ds)else none)else some (t,ds)
inductive Rd where
 |tup (ps:List (List Nat)) (ds:List aF)
 |nam (b:List Nat) (s:bg) (ds:List aF)
noncomputable def d8:Option Rd->PV
 |none=> .none
 |some (.tup ps ds)=> .list [.list [.str (an (aa "tuple")), .list (ps.map .str)], .list (ds.map aU)]
 |some (.nam b s ds)=> .list [.list [.str (an (aa "name")), .str b,cC s], .list (ds.map aU)]
noncomputable def fF(t:List Nat):Bool:=[40].isPrefixOf t&&[41].isSuffixOf t
noncomputable def dX(t:List Nat):List Nat:=(t.take (t.length-1)).drop 1
noncomputable def rd:Nat->List Nat->Option Rd
 |0,_=>none
 |n+1,t=>match eK 100 t []with
  |none=>none
  |some (u,ds)=>if fF u=true then(if(cz (dX u)).any (λp=>(rd n p).isNone)=true then none else some (.tup (cz (dX u)) ds))else match eV u with
   |none=>none
   |some (b,s)=>some (.nam b s ds)
theorem BC{c:Nat}{t:List Nat}(h:ce [c] t=true):c∈t:=by
 rw[nK]at h;simpa using h
theorem uL{t:List Nat}(h:eW t=true):(t.reverse.takeWhile (λc=>c !=91)).length<t.length/\ t[cx t]? =some 91/\ 1<=(t.reverse.takeWhile (λc=>c !=91)).length:=by
 unfold eW at h
 rw[aI]at h
 refine xA h λh1 h2=> ?_
 obtain⟨m,hme⟩:∃m,m=(t.reverse.takeWhile (λc=>c !=91)).length:=⟨_,rfl⟩
 have hle:=(oR (p:=λc:Nat=>c !=91) (l:=t.reverse)).length_le
 rw[Du,<-hme]at hle
 have hlt:m<t.length:=by
  refine ck (Nat.lt_or_eq_of_le hle) (λh=> ?_) (λh=> ?_)
  ·exact h
  ·exfalso
   have he:t.reverse.takeWhile (λc=>c !=91)=t.reverse:=(oR (p:=λc:Nat=>c !=91) (l:=t.reverse)).eq_of_length (by rw[<-hme,Du];exact h)
   have:=ba.mp (mI (p:=λc:Nat=>c !=91) (l:=t.reverse)) 91 (by rw[he,List.mem_reverse];exact(BC h2))
   simp at this
 refine⟨hme▸hlt,?_,?_⟩
 ·have hr:t.reverse[m]? =t[t.length-1-m]? :=Pp hlt
  unfold cx
  rw[<-hme,<-hr]
  have hlt':m<t.reverse.length:=by rw[Du];exact hlt
  have he:=fQ hlt'
  have:=qp (f:=λc=>c !=91) (x:=t.reverse) (p:=0) (c:=t.reverse[m]) (by rw[gz,<-hme,fK];exact he)
  rw[he]
  rw[show t.reverse[m]=91 from bne_eq_false_iff_eq.mp this]
 ·refine xE (li.mp h1) λs hs=> ?_
  rw[<-hs,List.reverse_append]
  simp
theorem BE{t:List Nat}(h:eW t=true):cx t+2<=t.length:=by
 refine bL (uL h) λh1 h2 h3=> ?_
 unfold cx;omega
section
variable{C:Calls}{t:List Nat}
theorem qw{x:List Nat}:ci (aa "endswith") t [.str x]=some (.bool (x.isSuffixOf t)):=by
 rw[KV];rfl
theorem BF{x:List Nat}:ci (aa "startswith") t [.str x]=some (.bool (x.isPrefixOf t)):=by
 rw[KW];rfl
theorem qy{a:Nat}(h:1<=a):bH .Sub (.int (a:Int)) (.int 1)=some (.int ((a-1:Nat):Int)):=by
 show some (PV.int ((a:Int)-1))=_
 congr 2;omega
theorem BG{ds:List aF}{d:aF}{v:PV}(hv:v=aU d)(h:ds.length<=900):bH .Add (.list [v]) (.list (ds.map aU))=some (.list ((d::ds).map aU)):=by
 subst hv
 exact if_pos (show 1+(ds.map aU).length<=aX by have:=dn;rw[cm];exact mL ‹_› (by rfl))
theorem uM{s:List Nat}:bn C .Is (cE s) .none= .ok (!aQ s):=by
 rw[cR]
 unfold cE
 by_cases h:aQ s=true<;>simp[h]
theorem BH{r:Option Rd}:bn C .Is (d8 r) .none= .ok r.isNone:=by
 rw[cR]
 cases r with
 |none=>rfl
 |some r=>cases r<;>rfl
theorem MK(y:List Nat):(∀p∈cz y,p.length<=y.length)/\ (cz y).length<=y.length+1:=by
 refine bL (tZ y y.length) λø h2 h3=> ?_
 rw[yT]at h2 h3
 exact⟨h3,h2⟩
noncomputable def uN(tl:aj):Prop:=∀f,(f==aa "at")=false->(f==aa "inner")=false->tl.lookup f=none
theorem ML{u:List Nat}(ht:fF u=true):2<=u.length:=by
 unfold fF at ht
 rw[aI]at ht
 refine xE (lh.mp ht.1) λs1 e1=> ?_
 refine xE (li.mp ht.2) λs2 e2=> ?_
 cases s1 with
 |nil=>
  rw[<-e1]at e2
  have:=congrArg List.getLast? e2
  simp at this
 |cons a s=>rw[<-e1];simp
theorem MM{α:Type}{f:α->Bool}{m:α->PV}{l:List α}(h:l.any f=true):(!((l.filter f).map m).isEmpty)=true:=by
 obtain⟨p,hp,hq⟩:=List.any_eq_true.mp h
 cases e:l.filter f with
 |nil=>exact absurd hq (wu.mp e p hp)
 |cons a r=>rfl
theorem MN{α:Type}{f:α->Bool}{m:α->PV}{l:List α}(h:l.any f=false):(!((l.filter f).map m).isEmpty)=false:=by
 rw[wu.mpr λp hp=>wg.mp h p hp];rfl
inductive nW(t:List Nat)(n:Nat)(ρ:aj):Prop
 |mk (u:List Nat) (ds:List aF) (tl:aj) (k:Nat) (h0:n=u.length) (h1:u.length<k) (h2:ρ=(aa "text", .str u)::(aa "dims", .list (ds.map aU))::tl) (h3:uN tl) (h4:ds.length+u.length<=t.length) (h5:eK 100 t []=eK k u ds):nW t n ρ
inductive uO(t:List Nat)(ρ:aj):Prop
 |mk (u:List Nat) (ds:List aF) (tl:aj) (h0:ρ=(aa "text", .str u)::(aa "dims", .list (ds.map aU))::tl) (h1:uN tl) (h2:ds.length+u.length<=t.length) (h3:eK 100 t []=some (u,ds)):uO t ρ
theorem MO(n:Nat)(hN:∀s:List Nat,s.length<=90->C.fn (aa "_law_number") [.str s]= .ok (cE s))
  (hM:∀s:List Nat,s.length<=90->C.fn (aa "_law_name") [.str s]= .ok (uH (eV s)))
  (hPa:∀s:List Nat,s.length<=90->C.fn (aa "_law_parts") [.str s]= .ok (.list ((cz s).map .str)))
  (hR:∀s:List Nat,s.length+2<=t.length->C.fn (aa "_law_read") [.str s]= .ok (d8 (rd n s)))
  (hx:t.length<=90):aN C false (ag 24) [.str t]= .ok (d8 (rd (n+1) t)):=by
 have hS:Sm t:=by unfold Sm;exact aV ‹_› (by rfl)
 refine dm (names:=[aa "text"]) rfl rfl ?_
 show aw _ _ [(aa "text", .str t)]=_
 (conv=>lhs;arg 2;whnf)
 (apply aO;(focus (apply bf;kernel_rfl;(focus ((repeat' first|tb_rel);done));lcg_sub)))
 refine uy
  (nW t)
  (uO t)
  t.length (by lia) (nW.mk t ([]) ([]) 100 rfl (by lia) rfl (λø ø ø=>rfl) (by simp) rfl) ?_ ?_
 ·intro n' ρ zn1
  obtain⟨u,ds,tl,k,rfl,hk,rfl,htl,hdl,hinv⟩:=zn1
  obtain⟨k,rfl⟩:∃k',k=k'+1:=⟨k-1,rY ‹_›⟩
  have hSu:Sm u:=by unfold Sm;lia
  have f1:=htl (aa "len") (by kernel_rfl) (by kernel_rfl)
  have f2:=htl (aa "_law_number") (by kernel_rfl) (by kernel_rfl)
  have hdef:eK (k+1) u ds=(if eW u=true then(if cF u=[]then eK k (u.take (cx u)) (none::ds)else if aQ (cF u)=true then eK k (u.take (cx u)) (some (cF u)::ds)else none)else some (u,ds)):=rfl
  cases hh:eW u with
  |false=>
   rw[if_neg (by rw[hh];simp)]at hdef
   apply dk.stop
   ·apply d6;(focus ((repeat' first|tb_rel|exact qw|exact jS);done));exact hh
   ·exact(uO.mk u ds _ rfl htl hdl (by rw[hinv,hdef]))
  |true=>
   rw[if_pos hh]at hdef
   refine bL (uL hh) λg1 g2 g3=> ?_
   have g4:=BE hh
   have hilen:(cF u).length<=90:=by
    unfold cF
    rw[eh,jj];lia
   obtain⟨m,hm⟩:∃m,m=(u.reverse.takeWhile (λc=>c !=91)).length:=⟨_,rfl⟩
   rw[<-hm]at g1 g3
   have hlast:cx u=u.length-1-m:=by unfold cx;rw[hm]
   have htake:(u.take (cx u)).length=cx u:=by rw[jj];lia
   have hmid:(u.take (u.length-1)).drop (u.length-1-m+1)=cF u:=by unfold cF;rw[hlast]
   have htl2:uN (aP (aa "inner") (.str (cF u)) (aP (aa "at") (.int ((u.length-1-m:Nat):Int)) tl)):=λf q1 q2=>jQ q2 (jQ q1 (htl f q1 q2))
   apply dk.pre (ρ3:=(aa "text", .str u)::(aa "dims", .list (ds.map aU))::aP (aa "inner") (.str (cF u)) (aP (aa "at") (.int ((u.length-1-m:Nat):Int)) tl))
   ·apply d6;(focus ((repeat' first|tb_rel|exact qw|exact jS);done));exact hh
   ·intro o' ho
    (apply aO;(focus (apply bf;kernel_rfl;(focus ((repeat' first|tb_rel|(with_reducible exact fC hSu)|((with_reducible apply qy);(focus exact ao (cV _ _) ‹_›)));done));lcg_sub)))
    apply aO;focus refine l8 (nJ (λk=>(aa "text", .str u)::(aa "dims", .list (ds.map aU))::aP (aa "at") (.int ((u.length-1-k:Nat):Int)) tl) m 0 _ (by unfold jB;exact eN ‹_› ‹_›) (λi h1 h2=> ?_) ?_)
    ·refine ay (nM (f:=λc=>c !=91) (x:=u.reverse) (p:=0) (i:=i) h1 (by rw[gz,<-hm];exact h2)) λc hc hf=> ?_
     have hc':u[u.length-1-i]? =some c:=by rw[<-hc];exact(Pp (by lia)).symm
     refine⟨?_,?_⟩
     ·apply d6;(focus ((repeat' first|tb_rel|exact iD (by lia) hc'|exact fD);done));simpa[bne] using hf
     ·apply aO
      focus
       apply Ma
       tb_start
       focus (repeat' first|tb_rel)
       focus exact qy (by lia)
       lcg_sub
      exact aR
    ·apply d6;(focus ((repeat' first|tb_rel|(rw[fK];exact iD (by lia) (hlast▸g2))|exact fD);done));rfl
    rw[fK]
    (apply aO;(focus (apply bf;kernel_rfl;(focus ((repeat' first|tb_rel|(with_reducible exact fC hSu)|((with_reducible apply qy);(focus exact ao (cV _ _) ‹_›))|(with_reducible exact cB)|(exact(d7 (a:=u.length-1-m+1) (b:=u.length-1) hSu (by lia) (DV ‹_› (by rfl))).trans (congrArg (λz=>some (PV.str z)) hmid)));done));lcg_sub)))
    exact ho
   ·by_cases hi:cF u=[]
    ·rw[if_pos hi]at hdef
     apply dk.next (n':=(u.take (cx u)).length)
     ·rfl
     ·show aw _ _ _=_
      (apply br;(focus ((repeat' first|tb_rel|exact fD|exact hN _ hilen|exact uM);done));(focus (rw[hi];rfl;done));(focus (exact aR)))
      (apply aO;(focus (apply bf;kernel_rfl;(focus ((repeat' first|tb_rel|(with_reducible apply kS)|exact fD|(rw[hi];rfl)|exact BG (d:=none) rfl (mM ‹_› ‹_› (by rfl)));done));lcg_sub)))
      (apply aO;(focus (apply bf;kernel_rfl;(focus ((repeat' first|tb_rel|(rw[me hSu (by lia),<-hlast]));done));lcg_sub)))
      exact aR
     ·lia
     ·exact(nW.mk (u.take (cx u)) (none::ds) _ k rfl (by lia) rfl htl2 (by rw[htake];simp;lia) (by rw[hinv,hdef]))
    ·rw[if_neg hi]at hdef
     cases hn:aQ (cF u)with
     |false=>
      rw[hn]at hdef
      refine dk.ret .none rfl ?_ ?_
      ·show aw _ _ _=_
       (apply ch;(focus ((repeat' first|tb_rel|exact fD|exact hN _ hilen|exact uM);done));(focus (rw[hn];simp[bne,hi];done));(focus (exact rfl)))
       (refine aD ?_ rfl;apply a6;(focus ((repeat' first|tb_rel);done)))
       rfl
      ·have:rd (n+1) t=none:=by unfold rd;rw[hinv,hdef];rfl
       rw[this];rfl
     |true=>
      have hpv:cE (cF u)= .int (aL (cF u)):=by unfold cE;rw[if_pos hn]
      rw[if_pos hn]at hdef
      apply dk.next (n':=(u.take (cx u)).length)
      ·rfl
      ·show aw _ _ _=_
       (apply br;(focus ((repeat' first|tb_rel|exact fD|exact hN _ hilen|exact uM);done));(focus (rw[hn];simp;done));(focus (exact aR)))
       (apply aO;(focus (apply bf;kernel_rfl;(focus ((repeat' first|tb_rel|(with_reducible apply kR)|exact fD|exact hN _ hilen|(show(cF u !=[])=true;simp[bne,hi])|exact BG (d:=some (cF u)) (by rw[hpv];rfl) (mM ‹_› ‹_› (by rfl)));done));lcg_sub)))
       (apply aO;(focus (apply bf;kernel_rfl;(focus ((repeat' first|tb_rel|(rw[me hSu (by lia),<-hlast]));done));lcg_sub)))
       exact aR
      ·lia
      ·exact(nW.mk (u.take (cx u)) (some (cF u)::ds) _ k rfl (by lia) rfl htl2 (by rw[htake];simp;lia) (by rw[hinv,hdef]))
 ·intro ρ zn2
  obtain⟨u,ds,tl,rfl,htl,hdl,hinv⟩:=zn2
  have hSu:Sm u:=by unfold Sm;lia
  have f1:=htl (aa "len") (by kernel_rfl) (by kernel_rfl)
  have f3:=htl (aa "_law_parts") (by kernel_rfl) (by kernel_rfl)
  have f4:=htl (aa "_law_name") (by kernel_rfl) (by kernel_rfl)
  have hrd:rd (n+1) t=(if fF u=true then(if(cz (dX u)).any (λp=>(rd n p).isNone)=true then none else some (.tup (cz (dX u)) ds))else match eV u with
   |none=>none
   |some (b,s)=>some (.nam b s ds)):=by
   show(match eK 100 t []with|none=>none|some (u,ds)=>_)=_
   rw[hinv]
  cases ht:fF u with
  |true=>
   rw[if_pos ht]at hrd
   have ht2:2<=u.length:=ML ht
   have hml:(dX u).length+2<=t.length:=by unfold dX;rw[eh,jj];lia
   refine xA (MK (dX u)) λhpb hpc=> ?_
   have hlen:((cz (dX u)).map PV.str).length<=1000:=by rw[cm];lia
   have hmid:(u.take (u.length-1)).drop 1=dX u:=rfl
   (apply ch;(focus ((repeat' first|tb_rel|exact qw|exact BF);done));(focus (exact ht;done));(focus (exact rfl)))
   (apply aO;(focus (apply bf;kernel_rfl;(focus ((repeat' first|tb_rel|(with_reducible exact fC hSu)|((with_reducible apply qy);(focus lia))|(exact(d7 (a:=1) hSu (by lia) (by lia)).trans (congrArg (λz=>some (PV.str z)) hmid))|exact hPa _ (by lia));done));lcg_sub)))
   cases ha:(cz (dX u)).any (λp=>(rd n p).isNone)with
   |true=>
    rw[if_pos ha]at hrd
    rw[hrd]
    (apply ch;(focus ((repeat' first|tb_rel|(with_reducible apply i9;kernel_rfl)|exact nT hlen|(refine mi PV.str _ (λp=>(rd n p).isNone) (Eq.refl true) ?_ ?_)|(exact hR _ (by have:=hpb _ (by assumption);lia))|exact BH|exact nU);done));(focus (exact MM ha;done));(focus (exact rfl)))
    (refine aD ?_ rfl;apply a6;(focus ((repeat' first|tb_rel);done)))
    rfl
   |false=>
    rw[if_neg (by rw[ha];simp)]at hrd
    rw[hrd]
    (apply br;(focus ((repeat' first|tb_rel|(with_reducible apply i9;kernel_rfl)|exact nT hlen|(refine mi PV.str _ (λp=>(rd n p).isNone) (Eq.refl true) ?_ ?_)|(exact hR _ (by have:=hpb _ (by assumption);lia))|exact BH|exact nU);done));(focus (exact MN ha;done));(focus (exact aR)))
    (refine aD ?_ rfl;apply a6;(focus ((repeat' first|tb_rel);done)))
    rfl
  |false=>
   rw[if_neg (by rw[ht];simp)]at hrd
   (apply br;(focus ((repeat' first|tb_rel|exact qw|exact BF);done));(focus (exact ht;done));(focus (exact aR)))
   have h1:=hM u (by lia)
   cases e:eV u with
   |none=>
    rw[e]at hrd h1
    have hrd:rd (n+1) t=none:=hrd
    rw[hrd]
    (apply aO;(focus (apply bf;kernel_rfl;(focus ((repeat' first|tb_rel|exact h1);done));lcg_sub)))
    (refine aD ?_ rfl;apply a6;(focus ((repeat' first|tb_rel|(with_reducible apply kR)|exact cR|exact rfl);done)))
    rfl
   |some z=>
    obtain⟨b,s⟩:=z
    rw[e]at hrd h1
    have hrd:rd (n+1) t=some (.nam b s ds):=hrd
    rw[hrd]
    (apply aO;(focus (apply bf;kernel_rfl;(focus ((repeat' first|tb_rel|exact h1);done));lcg_sub)))
    (refine aD ?_ rfl;apply a6;(focus ((repeat' first|tb_rel|(with_reducible apply kS)|exact cR|exact rfl);done)))
    rfl
end
end
section
theorem MP(d:List Nat):gK d 0=NumText.digitsVal d:=rfl
theorem jT{d:List Nat}(h:aQ d=true):d≠[]/\ d.head?≠some 48/\ d.all bc=true:=by
 unfold aQ at h
 simp only[aI,lj,bne_iff_ne,ne_eq]at h
 exact⟨λq=>by rw[q]at h;simp at h,h.1.2,h.2⟩
theorem jU{c:Nat}(h:bc c=true):48<=c/\ c<=57:=by
 unfold bc at h
 simpa only[aI,decide_eq_true_eq] using h
theorem uP{d:List Nat}(h:d.all bc=true):aL d=(gK d 0:Nat):=pt d 0 λc hc=>(jU (ba.mp h c hc)).1
theorem uQ{d:List Nat}(h:aQ d=true):ej (aL d)=d:=by
 refine bL (jT h) λh1 h2 h3=> ?_
 rw[uP h3]
 show(PySem.Str.ofString (toString ((gK d 0:Nat):Int))).cps.toList=d
 rw[PySem.W.KIN.signs_num,MP]
 obtain⟨n,hn⟩:∃n,d.length=n+1:=⟨d.length-1,by have:=Ds.mpr h1;exact DM ‹_›⟩
 rw[NumText.toDigits_digitsVal n d hn (λc hc=>jU (ba.mp h3 c hc)) (.inr (by
  cases d with
  |nil=>exact absurd rfl h1
  |cons c r=>
   have:=jU (ba.mp h3 c (.head _))
   refine⟨c,r,rfl,?_⟩
   have:c≠48:=λq=>h2 (by rw[q];rfl)
   lia))]
 rw[oS]
 have:∀c∈d,(Char.toNat∘Char.ofNat) c=c:=λc hc=>by
  have:=jU (ba.mp h3 c hc)
  have hv:c.isValidChar:= .inl (by lia)
  show(Char.ofNat c).toNat=c
  unfold Char.ofNat
  rw[dif_pos hv];rfl
 conv=>rhs;rw[<-List.map_id d]
 exact Pq this
theorem uR{d:List Nat}(h:aQ d=true)(hl:d.length<=90):small (aL d)=true:=by
 have h3:=(jT h).2.2
 have h4:=uF d 0 0 h3 (by decide)
 rw[fK]at h4
 have h2:10^d.length<=10^100:=Po (by decide) (aV ‹_› (by rfl))
 rw[uP h3]
 exact decide_eq_true (fM (eN (eN h4 h2) (by decide+kernel)))
noncomputable def b9:aF->List Nat
 |none=>[91,93]
 |some d=>[91]++d++[93]
noncomputable def a9(ds:List aF):List Nat:=(ds.map b9).flatten
noncomputable def bN:bg->List Nat
 | .none=>[]
 | .one a=>a
 | .two a b=>a++[120]++b
mutual
noncomputable def sh:Ty->List Nat
 | .bas b s ds=>b++bN s++a9 ds
 | .tup cs ds=>[40]++aG [44] (nY cs)++[41]++a9 ds
noncomputable def nY:List Ty->List (List Nat)
 |[]=>[]
 |T::r=>sh T::nY r
end
theorem qz:∀cs,nY cs=cs.map sh
 |[]=>rfl
 |T::r=>by show sh T::nY r=_;rw[qz r];rfl
noncomputable def da:aF->Bool
 |none=>true
 |some d=>aQ d
noncomputable def dY:bg->Bool
 | .none=>true
 | .one a=>aQ a
 | .two a b=>aQ a&&aQ b
mutual
noncomputable def wf:Ty->Bool
 | .bas b s ds=> !b.isEmpty&&b.all aK&&dY s&&ds.all da
 | .tup cs ds=> !cs.isEmpty&&qA cs&&ds.all da
noncomputable def qA:List Ty->Bool
 |[]=>true
 |T::r=>wf T&&qA r
end
theorem BJ:∀cs,qA cs=cs.all wf
 |[]=>rfl
 |T::r=>by show(wf T&&qA r)=_;rw[BJ r];rfl
theorem MQ:∀d,2<=(b9 d).length
 |none=>bO _
 |some d=>by simp[b9]
theorem kU:∀ds:List aF,2*ds.length<=(a9 ds).length/\ ∀d∈ds,(b9 d).length<=(a9 ds).length
 |[]=>⟨dZ _,λd h=>nomatch h⟩
 |d::r=>by
  refine xA (kU r) λh1 h2=> ?_
  have:=MQ d
  have e:(a9 (d::r)).length=(b9 d).length+(a9 r).length:=by simp[a9]
  refine⟨by rw[e,gj];lia,λx hx=> ?_⟩
  refine ck (bR.mp hx) (λrfl=> ?_) (λhx=> ?_)
  ·lia
  ·have:=h2 x hx;lia
theorem BK:∀ws:List (List Nat),aG [] ws=ws.flatten
 |[]=>rfl
 |[x]=>by simp[aG]
 |x::y::r=>by
  show x++[]++aG [] (y::r)=_
  rw[BK (y::r)];simp
theorem BL:∀ws:List (List Nat),cO (ws.map PV.str)=some ws
 |[]=>rfl
 |w::r=>by
  show(cO (r.map .str)).map (w:: ·)=_
  rw[BL r];rfl
theorem BM:∀bs:List Bool,iS (bs.map PV.bool)=some bs
 |[]=>rfl
 |b::r=>by
  show(iS (r.map .bool)).map (b:: ·)=_
  rw[BM r];rfl
section
variable{C:Calls}
theorem qB{s:List Nat}{ws:List (List Nat)}(h:s.length+(aG s ws).length<=1000):ci (aa "join") s [.list (ws.map .str)]=some (.str (aG s ws)):=by
 rw[AA]
 show((cO (ws.map .str)).bind λws=>if s.length+(aG s ws).length<=aX then some (PV.str (aG s ws))else none)=_
 rw[BL]
 exact if_pos (by have:=dn;exact aV ‹_› (by rfl))
theorem MR{xs:List PV}(h:xs.length<=1000):cW (aa "list") [.tuple xs]=some (.list xs):=by
 rw[KU]
 exact if_pos (by have:=dn;exact aV ‹_› (by rfl))
noncomputable def jc:aF->List PV
 |none=>[]
 |some d=>[.int (aL d)]
theorem uS(d:aF):aU d= .tuple (jc d):=by cases d<;>rfl
theorem qC{d:aF}(h:da d=true)(hl:(b9 d).length<=90):cW (aa "repr") [.list (jc d)]=some (.str (b9 d)):=by
 rw[KS]
 cases d with
 |none=>show some (PV.str (S "[]"))=_;rw[show S "[]" =[91,93] by decide+kernel];rfl
 |some d=>
  show(if small (aL d)=true then some (PV.str (S "[" ++ej (aL d)++S "]"))else none)=_
  rw[if_pos (uR h (by simp[b9]at hl;exact aV ‹_› (by rfl))),uQ h,show S "[" =[91] by decide+kernel,show S "]" =[93] by decide+kernel];rfl
theorem uT{d:List Nat}(h:aQ d=true)(hl:d.length<=90):cW (aa "str") [.int (aL d)]=some (.str d):=by
 rw[Az]
 show(if small (aL d)=true then some (PV.str (ej (aL d)))else none)=_
 rw[if_pos (uR h hl),uQ h]
theorem qD{d:aF}:cW (aa "list") [aU d]=some (.list (jc d)):=by
 rw[uS];exact MR (by cases d<;>simp[jc])
noncomputable abbrev nA:Str:=aa "arrlist"
noncomputable abbrev QT(b:List Nat)(s:bg)(ds:List aF):PV:= .inst .bas [(aa "arrlist",bM ds),(aa "base", .str b),(aa "sub",cC s)]
noncomputable abbrev QU(a:PV)(ds:List aF):PV:= .inst .tup [(aa "arrlist",bM ds),(aa "components",a)]
theorem QV{ds:List aF}(h:ds≠[]):dK (.tuple (ds.map aU)) (aa "tuple")=some true:=by kernel_rfl
theorem kW:dK .none (aa "tuple")=some false:=by kernel_rfl
theorem ml:dK .none (aa "int")=some false:=by kernel_rfl
theorem hY{i:Int}:dK (.int i) (aa "int")=some true:=by kernel_rfl
theorem BN{i:Int}:dK (.int i) (aa "tuple")=some false:=by kernel_rfl
theorem iH{xs:List PV}:dK (.tuple xs) (aa "tuple")=some true:=by kernel_rfl
theorem mn{xs:List PV}:dK (.tuple xs) (aa "int")=some false:=by kernel_rfl
noncomputable def bD:Ty->aY
 | .bas .. => .bas
 | .tup .. => .tup
noncomputable def gv:Ty->List (Str×PV)
 | .bas b s ds=>[(aa "arrlist",bM ds),(aa "base", .str b),(aa "sub",cC s)]
 | .tup cs ds=>[(aa "arrlist",bM ds),(aa "components", .tuple (hO cs))]
noncomputable abbrev aH(T:Ty):PV:= .inst (bD T) (gv T)
theorem uU(T:Ty):dU T=aH T:=by cases T<;>rfl
theorem uV(cs:List Ty):hO cs=cs.map aH:=by
 rw[uA]
 exact Pq λT ø=>uU T
theorem jV{s:List Nat}(h:s.length<=1000):eS (.str s)= .ok (.str s):=if_pos (by show s.length<=60000;exact aV ‹_› (by rfl))
theorem uW(s:List Nat):∀ws:List (List Nat),(∀w∈ws,w.length<=(aG s ws).length)/\ s.length*ws.length<=(aG s ws).length+s.length
 |[]=>⟨λw h=>(nomatch h),by simp⟩
 |[x]=>⟨λw h=>by rw[du]at h;subst h;exact bO _,by simp⟩
 |x::y::r=>by
  refine xA (uW s (y::r)) λh1 h2=> ?_
  have e:(aG s (x::y::r)).length=x.length+s.length+(aG s (y::r)).length:=by
   show(x++s++aG s (y::r)).length=_
   rw[cy,cy]
  refine⟨λw hw=> ?_,?_⟩
  ·refine ck (bR.mp hw) (λrfl=> ?_) (λhw=> ?_)
   ·lia
   ·have:=h1 w hw;lia
  ·rw[e,gj,Nat.mul_succ];lia
theorem qE{ds:List aF}(h:(a9 ds).length<=900):ci (aa "join") [] [.list (ds.map λd=> .str (b9 d))]=some (.str (a9 ds)):=by
 have e:(ds.map λd=>PV.str (b9 d))=(ds.map b9).map .str:=by rw[oS];rfl
 have e2:aG [] (ds.map b9)=a9 ds:=BK _
 rw[e,qB (by rw[e2];simpa using ao h (by decide)),e2]
theorem BO{cs:List Ty}(h:(aG [44] (cs.map sh)).length<=900):ci (aa "join") [44] [.list (cs.map λT=> .str (sh T))]=some (.str (aG [44] (cs.map sh))):=by
 have e:(cs.map λT=>PV.str (sh T))=(cs.map sh).map .str:=by rw[oS];rfl
 rw[e,qB (by simp;exact mL ‹_› (by rfl))]
theorem uX(T:Ty):((gv T).lookup (aa "to_type_str")).isNone=true:=by cases T<;>kernel_rfl
theorem MS{cs:List Ty}{ds:List aF}(hl:(sh (.tup cs ds)).length<=90):(aG [44] (cs.map sh)).length<=88/\ (a9 ds).length<=88/\ cs.length<=89/\ ds.length<=44/\ (∀T∈cs,(sh T).length+2<=(sh (.tup cs ds)).length)/\ ∀d∈ds,(b9 d).length<=88:=by
 have e:sh (.tup cs ds)=[40]++aG [44] (cs.map sh)++[41]++a9 ds:=by rw[<-qz];rfl
 have el:(sh (.tup cs ds)).length=(aG [44] (cs.map sh)).length+2+(a9 ds).length:=by rw[e];simp;lia
 refine xA (uW [44] (cs.map sh)) λh1 h2=> ?_
 refine xA (kU ds) λh3 h4=> ?_
 rw[cm]at h2
 simp only[gj,mz,fK,Nat.one_mul]at h2
 refine⟨by lia,by lia,by lia,by lia,λT hT=> ?_,λd hd=> ?_⟩
 ·have:=h1 (sh T) (lp hT);lia
 ·have:=h4 d hd;lia
theorem MT{cs:List Ty}{ds:List aF}(hC:∀T∈cs,C.meth (bD T) (aa "to_type_str") [aH T]= .ok (.str (sh T))) (hw:ds.all da=true) (hl:(sh (.tup cs ds)).length<=90):aN C true (am (ag 13) 1) [dU (.tup cs ds)]= .ok (.str (sh (.tup cs ds))):=by
 refine Dy (MS hl) λg1 g2 g3 g4 g5 g6=> ?_
 have e:sh (.tup cs ds)=[[40],aG [44] (cs.map sh),[41],a9 ds].flatten:=by
  rw[show sh (.tup cs ds)=[40]++aG [44] (nY cs)++[41]++a9 ds from rfl,qz];simp
 have hi:bP (.tuple (hO cs))=some (cs.map aH):=by rw[uV];exact hW (by rw[cm];exact aV ‹_› (by rfl))
 refine dm (names:=[aa "self"]) (by kernel_rfl) rfl ?_
 show aw _ _ [(aa "self", .inst .tup [(aa "arrlist",bM ds),(aa "components", .tuple (hO cs))])]=_
 (conv=>lhs;arg 2;whnf)
 rw[e]
 by_cases h0:ds=[]
 ·have ha:bM ds= .none:=by unfold bM;rw[if_pos h0]
  rw[ha]
  (apply aO;(focus (apply bf;kernel_rfl;(focus ((repeat' first|tb_rel|tb_start);done));lcg_sub)))
  apply br
  focus (repeat' first|tb_rel|exact kW)
  focus rfl
  focus
   (apply aO;(focus (apply bf;kernel_rfl;(focus ((repeat' first|tb_rel);done));lcg_sub)))
   exact aR
  (refine aD ?_ rfl;apply a6;(focus ((repeat' first|tb_rel|tb_start|exact hi|(refine gJ aH cs (λT=> .str (sh T)) (by kernel_rfl) ?_)|exact uX _|(exact hC _ (by assumption))|(with_reducible exact BO (by lia))|(with_reducible exact jV (by lia))|(with_reducible exact jV (by decide))|exact rfl);done)))
  rw[h0];rfl
 ·have ha:bM ds= .tuple (ds.map aU):=by unfold bM;rw[if_neg h0]
  rw[ha]
  (apply aO;(focus (apply bf;kernel_rfl;(focus ((repeat' first|tb_rel|tb_start);done));lcg_sub)))
  apply jP
  focus (repeat' first|tb_rel|exact iH)
  focus rfl
  focus
   (apply aO;(focus (apply bf;kernel_rfl;(focus ((repeat' first|tb_rel|(with_reducible exact hW (by rw[cm];exact lB ‹_›))|(refine gJ aU ds (λd=> .str (b9 d)) (by kernel_rfl) ?_)|(with_reducible exact qD)|(exact qC (ba.mp hw _ (by assumption)) (ao (g6 _ (by assumption)) (by decide)))|(with_reducible exact qE (by lia)));done));lcg_sub)))
   exact aR
  (refine aD ?_ rfl;apply a6;(focus ((repeat' first|tb_rel|tb_start|exact hi|(refine gJ aH cs (λT=> .str (sh T)) (by kernel_rfl) ?_)|exact uX _|(exact hC _ (by assumption))|(with_reducible exact BO (by lia))|(with_reducible exact jV (by lia))|(with_reducible exact jV (by decide))|exact rfl);done)))
  rfl
end
end
section
noncomputable def bt:Ty->List aF
 | .bas _ _ ds=>ds
 | .tup _ ds=>ds
noncomputable def ew(ds:List aF):Bool:=ds.any λd=>d.isNone
theorem kX{ds:List aF}(h:ds=[]):bM ds= .none:=if_pos h
theorem iI{ds:List aF}(h:ds≠[]):bM ds= .tuple (ds.map aU):=if_neg h
section
variable{C:Calls}
theorem gM{x y:List Nat}(h:x.length+y.length<=1000):bH .Add (.str x) (.str y)=some (.str (x++y)):=if_pos (show x.length+y.length<=aX by have:=dn;exact aV ‹_› (by rfl))
theorem MU{b:List Nat}{s:bg}{ds:List aF}(hl:(sh (.bas b s ds)).length<=90):b.length+(bN s).length+(a9 ds).length<=90/\ ds.length<=45/\ ∀d∈ds,(b9 d).length<=90:=by
 have e:(sh (.bas b s ds)).length=b.length+(bN s).length+(a9 ds).length:=by
  show(b++bN s++a9 ds).length=_
  rw[cy,cy]
 refine xA (kU ds) λh3 h4=> ?_
 exact⟨by lia,by lia,λd hd=>by have:=h4 d hd;lia⟩
theorem MV{a b:List Nat}(h:a.length+b.length<=900):ci (aa "join") [120] [.list ([a,b].map .str)]=some (.str (a++[120]++b)):=by
 have:=qB (s:=[120]) (ws:=[a,b]) (by simp[aG];lia)
 exact this
set_option tactic.hygienic true in
theorem MW{b:List Nat}{s:bg}{ds:List aF}(hs:dY s=true)(hw:ds.all da=true)(hl:(sh (.bas b s ds)).length<=90):aN C true (am (ag 14) 1) [dU (.bas b s ds)]= .ok (.str (sh (.bas b s ds))):=by
 refine bL (MU hl) λg1 g4 g6=> ?_
 refine dm (names:=[aa "self"]) (by kernel_rfl) rfl ?_
 show aw _ _ [(aa "self", .inst .bas [(aa "arrlist",bM ds),(aa "base", .str b),(aa "sub",cC s)])]=_
 (conv=>lhs;arg 2;whnf)
 apply aO
 focus
  apply iC
  focus kernel_rfl
  focus (repeat' first|tb_rel|tb_start)
  lcg_sub
  lcg_sub
 cases s with
 |none=>
  apply br
  focus (repeat' first|tb_rel|exact ml)
  focus rfl
  focus
   apply br
   focus (repeat' first|tb_rel|exact kW)
   focus rfl
   focus
    (apply aO;(focus (apply bf;kernel_rfl;(focus ((repeat' first|tb_rel);done));lcg_sub)))
    exact aR
   exact aR
  by_cases h0:ds=[]
  ·rw[kX h0]
   apply br
   focus (repeat' first|tb_rel|exact kW)
   focus rfl
   focus
    (apply aO;(focus (apply bf;kernel_rfl;(focus ((repeat' first|tb_rel);done));lcg_sub)))
    exact aR
   (refine aD ?_ rfl;apply a6;(focus ((repeat' first|tb_rel|tb_start|(with_reducible exact gM (by simp[bN]at g1 ⊢;lia)));done)))
   rw[h0];rfl
  ·rw[iI h0]
   apply jP
   focus (repeat' first|tb_rel|exact iH)
   focus rfl
   focus
    (apply aO;(focus (apply bf;kernel_rfl;(focus ((repeat' first|tb_rel|(with_reducible exact hW (by rw[cm];lia))|(refine gJ aU ds (λd=> .str (b9 d)) (by kernel_rfl) ?_)|(with_reducible exact qD)|(exact qC (ba.mp hw _ (by assumption)) (ao (g6 _ (by assumption)) (by decide)))|(with_reducible exact qE (by lia)));done));lcg_sub)))
    exact aR
   (refine aD ?_ rfl;apply a6;(focus ((repeat' first|tb_rel|tb_start|(with_reducible exact gM (by simp[bN]at g1 ⊢;lia)));done)))
   rfl
 |one a=>
  have ha:aQ a=true:=hs
  have hal:a.length<=90:=by simp[bN]at g1;exact DL ‹_› (by rfl)
  apply jP
  focus (repeat' first|tb_rel|exact hY)
  focus rfl
  focus
   (apply aO;(focus (apply bf;kernel_rfl;(focus ((repeat' first|tb_rel|(exact uT ha hal));done));lcg_sub)))
   exact aR
  by_cases h0:ds=[]
  ·rw[kX h0]
   apply br
   focus (repeat' first|tb_rel|exact kW)
   focus rfl
   focus
    (apply aO;(focus (apply bf;kernel_rfl;(focus ((repeat' first|tb_rel);done));lcg_sub)))
    exact aR
   (refine aD ?_ rfl;apply a6;(focus ((repeat' first|tb_rel|tb_start|(with_reducible exact gM (by simp[bN]at g1 ⊢;lia)));done)))
   rw[h0];rfl
  ·rw[iI h0]
   apply jP
   focus (repeat' first|tb_rel|exact iH)
   focus rfl
   focus
    (apply aO;(focus (apply bf;kernel_rfl;(focus ((repeat' first|tb_rel|(with_reducible exact hW (by rw[cm];lia))|(refine gJ aU ds (λd=> .str (b9 d)) (by kernel_rfl) ?_)|(with_reducible exact qD)|(exact qC (ba.mp hw _ (by assumption)) (ao (g6 _ (by assumption)) (by decide)))|(with_reducible exact qE (by lia)));done));lcg_sub)))
    exact aR
   (refine aD ?_ rfl;apply a6;(focus ((repeat' first|tb_rel|tb_start|(with_reducible exact gM (by simp[bN]at g1 ⊢;lia)));done)))
   rfl
 |two a c=>
  have ha:aQ a=true/\ aQ c=true:=by simpa[dY] using hs
  have hal:a.length+c.length<=90:=by simp[bN]at g1;lia
  have hi:bP (.tuple [.int (aL a), .int (aL c)])=some ([a,c].map λd=> .int (aL d)):=hW (by simp)
  apply br
  focus (repeat' first|tb_rel|exact mn)
  focus rfl
  focus
   apply jP
   focus (repeat' first|tb_rel|exact iH)
   focus rfl
   focus
    (apply aO;(focus (apply bf;kernel_rfl;(focus ((repeat' first|tb_rel|exact hi|(refine gJ (λd=> .int (aL d)) [a,c] (λd=> .str d) (by kernel_rfl) ?_)|(refine uT (by rename_i hm;simp only[bR,eQ,or_false]at hm;rcases hm with rfl|rfl;exact ha.1;exact ha.2) (by rename_i hm;simp only[bR,eQ,or_false]at hm;rcases hm with rfl|rfl<;>lia))|(exact MV (aV ‹_› (by rfl))));done));lcg_sub)))
    exact aR
   exact aR
  by_cases h0:ds=[]
  ·rw[kX h0]
   apply br
   focus (repeat' first|tb_rel|exact kW)
   focus rfl
   focus
    (apply aO;(focus (apply bf;kernel_rfl;(focus ((repeat' first|tb_rel);done));lcg_sub)))
    exact aR
   (refine aD ?_ rfl;apply a6;(focus ((repeat' first|tb_rel|tb_start|(with_reducible exact gM (by simp[bN]at g1 ⊢;lia)));done)))
   rw[h0];rfl
  ·rw[iI h0]
   apply jP
   focus (repeat' first|tb_rel|exact iH)
   focus rfl
   focus
    (apply aO;(focus (apply bf;kernel_rfl;(focus ((repeat' first|tb_rel|(with_reducible exact hW (by rw[cm];lia))|(refine gJ aU ds (λd=> .str (b9 d)) (by kernel_rfl) ?_)|(with_reducible exact qD)|(exact qC (ba.mp hw _ (by assumption)) (ao (g6 _ (by assumption)) (by decide)))|(with_reducible exact qE (by lia)));done));lcg_sub)))
    exact aR
   (refine aD ?_ rfl;apply a6;(focus ((repeat' first|tb_rel|tb_start|(with_reducible exact gM (by simp[bN]at g1 ⊢;lia)));done)))
   rfl
theorem MX(T:Ty):aN C false (am (ag 12) 6) [aH T]= .ok (.bool (!(bt T).isEmpty)):=by
 refine dm (names:=[aa "self"]) (by kernel_rfl) rfl ?_
 show aw _ _ [(aa "self", .inst (bD T) (gv T))]=_
 (conv=>lhs;arg 2;whnf)
 have hf:(gv T).lookup (aa "arrlist")=some (bM (bt T)):=by cases T<;>exact l9
 (refine aD ?_ rfl;apply a6;(focus ((repeat' first|tb_rel|exact hf|exact iE);done)))
 by_cases h0:bt T=[]
 ·rw[kX h0,h0];rfl
 ·rw[iI h0]
  cases e:bt T with
  |nil=>exact absurd e h0
  |cons a r=>rfl
theorem MY{xs:List PV}(h:xs.length<=1000):cW (aa "len") [.tuple xs]=some (.int (xs.length:Nat)):=by
 have:=dn
 rw[pR]
 exact if_pos (aV ‹_› (by rfl))
theorem MZ{d:aF}:cW (aa "len") [aU d]=some (.int (((jc d).length:Nat):Int)):=by
 rw[uS];exact MY (by cases d<;>simp[jc])
theorem BP{α:Type}{l:List α}{f:α->Bool}:iS (l.map λa=> .bool (f a))=some (l.map f):=by
 have:(l.map λa=>PV.bool (f a))=(l.map f).map .bool:=by rw[oS];rfl
 rw[this,BM]
theorem M0(T:Ty)(hl:(bt T).length<=90)(hA:C.prop (bD T) (aa "is_array") (aH T)= .ok (.bool (!(bt T).isEmpty))):aN C true (am (ag 12) 8) [aH T]= .ok (.bool (ew (bt T))):=by
 refine dm (names:=[aa "self"]) (by kernel_rfl) rfl ?_
 show aw _ _ [(aa "self", .inst (bD T) (gv T))]=_
 (conv=>lhs;arg 2;whnf)
 have hf:(gv T).lookup (aa "arrlist")=some (bM (bt T)):=by cases T<;>exact l9
 by_cases h0:bt T=[]
 ·rw[h0]at hA ⊢
  refine aD (jO (ja (v:= .bool (false&&false)) (jM (l7 ?_ λq=>nomatch q)) rfl)) rfl
  (repeat' first|tb_rel|exact hA)
 ·have ha:(!(bt T).isEmpty)=true:=by
   cases e:bt T with
   |nil=>exact absurd e h0
   |cons a r=>rfl
  rw[ha]at hA
  rw[iI h0]at hf
  (refine aD ?_ rfl;apply a6;(focus ((repeat' first|tb_rel|exact hA|exact hf|(with_reducible exact hW (by rw[cm];exact lB ‹_›))|(refine gJ aU (bt T) (λd=> .bool ((jc d).length==0)) (by kernel_rfl) ?_)|(with_reducible exact MZ)|exact uJ|exact BP);done)))
  have:(((bt T).map λd=>(jc d).length==0).any _root_.id)=ew (bt T):=by
   unfold ew
   rw[wv]
   congr 1
   funext d
   cases d<;>rfl
  rw[this];rfl
end
end
section
theorem jW{r:List Nat}{c:Nat}(h:r.take 1=[c]):r=c::r.drop 1:=by
 cases r with
 |nil=>exact sk h
 |cons a r=>cases h;rfl
theorem M3{r:List Nat}{a b:Nat}(h:r.take 2=[a,b]):r=a::b::r.drop 2:=by
 match r,h with
 |[],h=>exact sk h
 |[x],h=>cases h
 |x::y::r,h=>cases h;rfl
theorem uY{r d r':List Nat}(h:cw r=some (d,r')):r=d++r'/\ aQ d=true:=by
 refine⟨(nN h).1,?_⟩
 unfold cw at h
 simp only at h
 split at h
 ·exact al h
 ·rename_i hn
  cases aq h
  unfold aQ
  rw[aI,aI]
  refine⟨⟨?_,?_⟩,mI⟩
  ·cases e:r.takeWhile bc with
   |nil=>exact absurd (.inl e) hn
   |cons a b=>rfl
  ·rw[bne_iff_ne];exact λq=>hn (.inr q)
theorem M4{d:aF}{ds:List aF}:a9 (d::ds)=b9 d++a9 ds:=rfl
theorem M5(a b:List aF):a9 (a++b)=a9 a++a9 b:=by unfold a9;rw[wt,List.flatten_append]
theorem qF:∀n r,r=a9 (arr n r).1++(arr n r).2/\ (arr n r).1.all da=true
 |0,r=>⟨rfl,rfl⟩
 |n+1,r=>by
  unfold arr
  by_cases h1:r.take 1=[91]
  ·rw[if_pos h1]
   by_cases h2:r.take 2=[91,93]
   ·rw[if_pos h2]
    refine xA (qF n (r.drop 2)) λe1 e2=> ?_
    refine⟨?_,e2⟩
    show r=[91,93]++a9 (arr n (r.drop 2)).1++(arr n (r.drop 2)).2
    rw[bU,<-e1]
    exact M3 h2
   ·rw[if_neg h2]
    cases e:cw (r.drop 1)with
    |none=>exact⟨rfl,rfl⟩
    |some q=>
     obtain⟨d,r'⟩:=q
     refine xA (uY e) λg1 g2=> ?_
     show r=a9 (if r'.take 1=[93]then _ else _:List aF×List Nat).1++(if r'.take 1=[93]then _ else _:List aF×List Nat).2/\ (if r'.take 1=[93]then _ else _:List aF×List Nat).1.all da=true
     by_cases h3:r'.take 1=[93]
     ·rw[if_pos h3]
      refine xA (qF n (r'.drop 1)) λe1 e2=> ?_
      refine⟨?_,by show(aQ d&&_)=true;rw[g2,e2];rfl⟩
      show r=[91]++d++[93]++a9 (arr n (r'.drop 1)).1++(arr n (r'.drop 1)).2
      rw[bU,<-e1]
      have:=jW h3
      rw[(jW h1),g1,this];simp
     ·rw[if_neg h3];exact⟨rfl,rfl⟩
  ·rw[if_neg h1];exact⟨rfl,rfl⟩
theorem M6(r:List Nat):r=bN (bW r).1++(bW r).2/\ dY (bW r).1=true:=by
 unfold bW
 cases e:cw r with
 |none=>exact⟨rfl,rfl⟩
 |some q=>
  obtain⟨a,r1⟩:=q
  refine xA (uY e) λg1 g2=> ?_
  show r=bN (if r1.take 1=[120]then _ else _:bg×List Nat).1++(if r1.take 1=[120]then _ else _:bg×List Nat).2/\ dY (if r1.take 1=[120]then _ else _:bg×List Nat).1=true
  by_cases h:r1.take 1=[120]
  ·rw[if_pos h]
   cases e2:cw (r1.drop 1)with
   |none=>exact⟨g1,g2⟩
   |some q=>
    obtain⟨b,r2⟩:=q
    refine xA (uY e2) λk1 k2=> ?_
    refine⟨?_,by show(aQ a&&aQ b)=true;rw[g2,k2];rfl⟩
    show r=a++[120]++b++r2
    rw[g1,jW h,k1];simp
  ·rw[if_neg h];exact⟨g1,g2⟩
theorem QW(s x y:List Nat)(r:List (List Nat)):aG s (x::y::r)=x++s++aG s (y::r):=rfl
theorem QX(s x:List Nat):aG s [x]=x:=rfl
theorem jX{s x:List Nat}:∀{r:List (List Nat)},r≠[]->aG s (x::r)=x++s++aG s r
 |[],h=>absurd rfl h
 |y::r,_=>rfl
theorem BQ{f:List Nat->Option (Ty×List Nat)}(hf:∀r T r',f r=some (T,r')->r=sh T++r'/\ wf T=true):∀m r Ts r',cN f m r=some (Ts,r')->r=aG [44] (Ts.map sh)++r'/\ Ts.all wf=true/\ Ts≠[]
 |0,r,Ts,r',h=>by exact al h
 |m+1,r,Ts,r',h=>by
  unfold cN at h
  cases e:f r with
  |none=>rw[e]at h;exact al h
  |some q=>
   obtain⟨T,r1⟩:=q
   refine xA (hf _ _ _ e) λg1 g2=> ?_
   rw[e]at h
   have h:(if r1.take 1=[44]then(match cN f m (r1.drop 1)with|some (Ts,r2)=>some (T::Ts,r2)|none=>none)else some ([T],r1):Option (List Ty×List Nat))=some (Ts,r'):=h
   by_cases h1:r1.take 1=[44]
   ·rw[if_pos h1]at h
    cases e2:cN f m (r1.drop 1)with
    |none=>rw[e2]at h;exact al h
    |some q=>
     obtain⟨Us,r2⟩:=q
     rw[e2]at h
     cases aq h
     refine bL (BQ hf m _ _ _ e2) λk1 k2 k3=> ?_
     refine⟨?_,by show(wf T&&Us.all wf)=true;rw[g2,k2];rfl,by simp⟩
     rw[fe,jX (by simpa using k3),g1,jW h1,k1]
     simp
   ·rw[if_neg h1]at h
    cases aq h
    exact⟨g1,by simp[g2],by simp⟩
theorem gN{b:List Nat}{s:bg}{ds:List aF}:wf (.bas b s ds)=(!b.isEmpty&&b.all aK&&dY s&&ds.all da):=by simp only[wf]
theorem gO{cs:List Ty}{ds:List aF}:wf (.tup cs ds)=(!cs.isEmpty&&cs.all wf&&ds.all da):=by simp only[wf,BJ]
theorem hZ{b:List Nat}{s:bg}{ds:List aF}:sh (.bas b s ds)=b++bN s++a9 ds:=by simp only[sh]
theorem gP{cs:List Ty}{ds:List aF}:sh (.tup cs ds)=[40]++aG [44] (cs.map sh)++[41]++a9 ds:=by simp only[sh,qz]
theorem qG{α:Type}{l:List α}(h:l≠[]):(!l.isEmpty)=true:=by cases l with
 |nil=>exact absurd rfl h
 |cons a r=>rfl
theorem BR:∀n r T r',dW n r=some (T,r')->r=sh T++r'/\ wf T=true
 |0,r,T,r',h=>by exact al h
 |n+1,r,T,r',h=>by
  unfold dW at h
  by_cases h1:r.take 1=[40]
  ·rw[if_pos h1]at h
   unfold gI at h
   cases e:cN (dW n) 100 (r.drop 1)with
   |none=>rw[e]at h;exact al h
   |some q=>
    obtain⟨Ts,r1⟩:=q
    refine bL (BQ (BR n) _ _ _ _ e) λk1 k2 k3=> ?_
    rw[e]at h
    have h:(if r1.take 1=[41]then some (.tup Ts (arr 100 (r1.drop 1)).1,(arr 100 (r1.drop 1)).2)else none:Option (Ty×List Nat))=some (T,r'):=h
    by_cases h2:r1.take 1=[41]
    ·rw[if_pos h2]at h
     cases aq h
     refine xA (qF 100 (r1.drop 1)) λe1 e2=> ?_
     refine⟨?_,?_⟩
     ·rw[gP,bU,<-e1,jW h1,k1,bU,]
      conv=>lhs;rw[jW h2]
      simp
     ·rw[gO,e2,k2,qG k3];rfl
    ·rw[if_neg h2]at h;exact al h
  ·rw[if_neg h1]at h
   by_cases h2:r.takeWhile aK=[]
   ·rw[if_pos h2]at h;exact al h
   ·rw[if_neg h2]at h
    cases aq h
    refine xA (qF 100 (bW (r.dropWhile aK)).2) λe1 e2=> ?_
    refine xA (M6 (r.dropWhile aK)) λe3 e4=> ?_
    refine⟨?_,?_⟩
    ·rw[hZ,bU,<-e1,bU,<-e3,mH]
    ·rw[gN,e2,e4,qG h2,mI];rfl
theorem qH{x:List Nat}{T:Ty}(h:cZ x=some T):sh T=x/\ wf T=true:=by
 unfold cZ at h
 cases e:dW 64 x with
 |none=>rw[e]at h;exact al h
 |some q=>
  obtain⟨U,r⟩:=q
  rw[e]at h
  cases r with
  |cons a r=>exact al h
  |nil=>
   obtain rfl:=aq h
   refine xA (BR _ _ _ _ e) λh1 h2=> ?_
   exact⟨by rw[h1,j9],h2⟩
theorem mo{f:Nat->Bool}:∀{a r:List Nat},(∀c∈a,f c=true)->(∀c,r.head? =some c->f c=false)->(a++r).takeWhile f=a/\ (a++r).dropWhile f=r
 |[],[],_,_=>⟨rfl,rfl⟩
 |[],c::r,_,h=>by
  have:=h c rfl
  constructor<;>simp[this]
 |c::a,r,h,h' =>by
  refine xA (mo (a:=a) (r:=r) (λx hx=>h x (.tail _ hx)) h') λh1 h2=> ?_
  have hc:=h c (.head _)
  constructor
  ·rw[mA,List.takeWhile_cons_of_pos hc,h1]
  ·rw[mA,List.dropWhile_cons_of_pos hc,h2]
noncomputable def d9(f:Nat->Bool)(r:List Nat):Prop:=∀c,r.head? =some c->f c=false
theorem d9.nil{f:Nat->Bool}:d9 f []:=λc h=>by cases h
theorem d9.cons{f:Nat->Bool}{c:Nat}{r:List Nat}(h:f c=false):d9 f (c::r):=λd e=>by cases e;exact h
theorem jY{d:List Nat}(h:aQ d=true):∃c r,d=c::r/\ c≠48/\ (∀x∈d,bc x=true):=by
 refine bL (jT h) λh1 h2 h3=> ?_
 cases d with
 |nil=>exact absurd rfl h1
 |cons c r=>exact⟨c,r,rfl,λq=>h2 (by rw[q];rfl),ba.mp h3⟩
theorem qI{d r:List Nat}(h:aQ d=true)(hr:d9 bc r):cw (d++r)=some (d,r):=by
 refine bL (jT h) λh1 h2 h3=> ?_
 refine xA (mo (ba.mp h3) hr) λe1 e2=> ?_
 unfold cw
 simp only[e1,e2]
 rw[if_neg (by rintro (q|q);exact h1 q;exact h2 q)]
theorem M7{r:List Nat}(hr:d9 bc r):cw r=none:=by
 refine xA (mo (a:=[]) (f:=bc) (λc h=>nomatch h) hr) λe1 e2=> ?_
 unfold cw
 rw[vT]at e1 e2
 simp only[e1]
 rw[if_pos (.inl trivial)]
theorem BS{r:List Nat}{f:Nat->Bool}{c:Nat}(h:d9 f r)(hc:f c=true):r.take 1≠[c]:=λq=>by
 have:=h c (by rw[jW q];rfl)
 rw[hc]at this;exact km this
theorem kY{d:List Nat}(h:∀x∈d,bc x=true):∀x∈d,x≠91/\ x≠93/\ x≠120/\ x≠40/\ x≠41/\ x≠44/\ aK x=false:=λx hx=>
 (by decide:∀x,x<58->bc x=true->x≠91/\ x≠93/\ x≠120/\ x≠40/\ x≠41/\ x≠44/\ aK x=false) x (q9 (jU (h x hx)).2) (h x hx)
theorem M8{c:Nat}(h:aK c=true):(65<=c/\ c<=90) \/(97<=c/\ c<=122):=by
 unfold aK at h
 rw[gS,aI,aI]at h
 simpa using h
theorem uZ{c:Nat}(h:aK c=true):c≠91/\ c≠93/\ c≠40/\ c≠41/\ c≠44:=
 (by decide+kernel:∀c,c<123->aK c=true->c≠91/\ c≠93/\ c≠40/\ c≠41/\ c≠44) c (by rcases M8 h with q|q<;>exact dt q.2 (by decide)) h
theorem M9{n:Nat}{r:List Nat}:arr (n+1) (91::93::r)=(none::(arr n r).1,(arr n r).2):=rfl
theorem Na{n:Nat}{d r:List Nat}(h:aQ d=true):arr (n+1) (91::(d++93::r))=(some d::(arr n r).1,(arr n r).2):=by
 refine io (jY h) λc t e1 e2 e3=> ?_
 have h2:(91::(d++93::r)).take 2≠[91,93]:=by
  have:=jU (e3 c (by rw[e1];exact .head _))
  rw[e1]
  intro q
  have q:[91,c]=[91,93]:=q
  simp at q
  lia
 show(if(91::(d++93::r)).take 1=[91]then _ else _:List aF×List Nat)=_
 rw[if_pos (show(91::(d++93::r)).take 1=[91]from rfl),if_neg h2]
 have h3:cw ((91::(d++93::r)).drop 1)=some (d,93::r):=qI h (.cons (by decide+kernel))
 rw[h3]
 rfl
theorem qJ:∀(ds:List aF) (n:Nat) (r:List Nat),ds.all da=true->ds.length<=n->d9 (λc=>c==91) r->arr n (a9 ds++r)=(ds,r)
 |[],0,r,_,_,_=>rfl
 |[],n+1,r,_,_,h=>by
  show arr (n+1) r=_
  unfold arr
  rw[if_neg (BS h (by decide))]
 |d::ds,0,r,_,h,_=>by simp at h
 |none::ds,n+1,r,hw,hl,h=>by
  show arr (n+1) (91::93::(a9 ds++r))=_
  rw[M9,(qJ ds n r (by simp only[gV,aI]at hw;exact hw.2) (by simpa using hl) h)]
 |some d::ds,n+1,r,hw,hl,h=>by
  have hw':aQ d=true/\ ds.all da=true:=by simp only[gV,aI]at hw;exact hw
  have e0:a9 (some d::ds)++r=91::(d++93::(a9 ds++r)):=by
   rw[M4];unfold b9;simp
  rw[e0]
  rw[Na hw'.1,(qJ ds n r hw'.2 (by simpa using hl) h)]
theorem Nb{s:bg}{R:List Nat}(hw:dY s=true)(h:d9 (λc=>bc c||c==120) R):bW (bN s++R)=(s,R):=by
 have hf:d9 bc R:=λc q=>by have:=h c q;rw[ki]at this;exact this.1
 have hx:R.take 1≠[120]:=BS h (by decide)
 cases s with
 |none=>
  show bW R=_
  unfold bW
  rw[M7 hf]
 |one a=>
  have hw:aQ a=true:=hw
  show bW (a++R)=_
  unfold bW
  rw[qI hw hf]
  exact if_neg hx
 |two a b=>
  have hw:aQ a=true/\ aQ b=true:=by simpa[dY] using hw
  show bW (a++[120]++b++R)=_
  rw[bU,bU]
  unfold bW
  rw[qI (r:=[120]++(b++R)) hw.1 (.cons (by decide+kernel))]
  show(if([120]++(b++R)).take 1=[120]then(match cw (([120]++(b++R)).drop 1)with|some (b,r2)=>(bg.two a b,r2)|none=>(bg.one a,[120]++(b++R)))else _)=_
  have h0:([120]++(b++R)).take 1=[120]:=rfl
  rw[if_pos h0,show List.drop 1 ([120]++(b++R))=b++R from rfl,qI hw.2 hf]
noncomputable def Stop(r:List Nat):Prop:=d9 (λc=> !(c==44||c==41)) r
theorem Stop.not{r:List Nat}(h:Stop r){f:Nat->Bool}(h1:f 44=false)(h2:f 41=false):d9 f r:=λc e=>by
 have:=h c e
 rw[Dt,gS,beq_iff_eq,beq_iff_eq]at this
 rcases this with rfl|rfl
 ·exact h1
 ·exact h2
theorem BU{f:Nat->Bool}{a r:List Nat}(ha:d9 f a)(hr:d9 f r):d9 f (a++r):=by
 cases a with
 |nil=>exact hr
 |cons c a=>exact .cons (ha c rfl)
theorem Nc{f:Nat->Bool}(h:f 91=false)(ds:List aF):d9 f (a9 ds):=by
 cases ds with
 |nil=>exact .nil
 |cons d ds=>cases d<;>exact .cons h
theorem BV{s:bg}(hw:dY s=true){f:Nat->Bool}(h:∀c,bc c=true->f c=false):d9 f (bN s):=by
 cases s with
 |none=>exact .nil
 |one a=>
  refine io (jY (show aQ a=true from hw)) λc r e ø h3=> ?_
  rw[e];exact .cons (h _ (h3 c (by rw[e];exact .head _)))
 |two a b=>
  have hw:aQ a=true/\ aQ b=true:=by simpa[dY] using hw
  refine io (jY hw.1) λc r e ø h3=> ?_
  rw[e];exact .cons (h _ (h3 c (by rw[e];exact .head _)))
theorem Nd{f:List Nat->Option (Ty×List Nat)}{cs:List Ty}:∀m r,(∀T∈cs,∀r,Stop r->f (sh T++r)=some (T,r))->cs≠[]->cs.length<=m->r.take 1=[41]->cN f m (aG [44] (cs.map sh)++r)=some (cs,r):=by
 induction cs with
 |nil=>exact λm r ø h=>absurd rfl h
 |cons T cs ih=>
  intro m r hf ø hm hr
  cases m with
  |zero=>simp at hm
  |succ m=>
   cases cs with
   |nil=>
    show cN f (m+1) (sh T++r)=_
    unfold cN
    rw[hf T (.head _) r (by rw[jW hr];exact .cons (by decide))]
    show(if r.take 1=[44]then _ else _:Option (List Ty×List Nat))=_
    rw[if_neg (by rw[hr];decide)]
   |cons U cs=>
    have e:=ih m r (λT hT=>hf T (.tail _ hT)) (by simp) (by simpa using hm) hr
    rw[fe,jX (by simp),bU,bU]
    unfold cN
    rw[hf T (.head _) ([44]++(aG [44] ((U::cs).map sh)++r)) (λc e=>by obtain rfl:=aq e;decide)]
    show(if([44]++(aG [44] ((U::cs).map sh)++r)).take 1=[44]then(match cN f m (([44]++(aG [44] ((U::cs).map sh)++r)).drop 1)with|some (Ts,r2)=>some (T::Ts,r2)|none=>none)else _:Option (List Ty×List Nat))=_
    have h0:([44]++(aG [44] ((U::cs).map sh)++r)).take 1=[44]:=rfl
    rw[if_pos h0,show List.drop 1 ([44]++(aG [44] ((U::cs).map sh)++r))=aG [44] ((U::cs).map sh)++r from rfl,e]
theorem u0{cs:List Ty}{ds:List aF}:(sh (.tup cs ds)).length=2+(aG [44] (cs.map sh)).length+(a9 ds).length:=by
 rw[gP];simp;lia
theorem jZ{cs:List Ty}{ds:List aF}:(∀T∈cs,(sh T).length+2<=(sh (.tup cs ds)).length)/\ cs.length<=(sh (.tup cs ds)).length/\ 2*ds.length<=(sh (.tup cs ds)).length:=by
 refine xA (uW [44] (cs.map sh)) λh1 h2=> ?_
 refine xA (kU ds) λh3 ø=> ?_
 rw[cm]at h2
 simp only[gj,mz,fK,Nat.one_mul]at h2
 rw[u0]
 refine⟨λT hT=> ?_,by lia,lB ‹_›⟩
 have:=h1 (sh T) (lp hT)
 lia
theorem qK{b:List Nat}{s:bg}{ds:List aF}:(sh (.bas b s ds)).length=b.length+(bN s).length+(a9 ds).length/\ 2*ds.length<=(sh (.bas b s ds)).length:=by
 refine xA (kU ds) λh3 ø=> ?_
 rw[hZ,cy,cy]
 exact⟨rfl,lB ‹_›⟩
theorem BW:∀n T r,wf T=true->(sh T).length<2*n->(sh T).length<=100->Stop r->dW n (sh T++r)=some (T,r)
 |0,T,r,_,h,_,_=>by lia
 |n+1, .bas b s ds,r,hw,hl,h1,hr=>by
  rw[gN,aI,aI,aI]at hw
  obtain⟨zn1,w4⟩:=hw
  obtain⟨zn2,w3⟩:=zn1
  obtain⟨w1,w2⟩:=zn2
  refine xA (qK (b:=b) (s:=s) (ds:=ds)) λl1 l2=> ?_
  have hb:∀c∈b,aK c=true:=ba.mp w2
  have hR:∀f:Nat->Bool,f 91=false->f 44=false->f 41=false->d9 f (a9 ds++r):=λf f1 f2 f3=>BU (Nc f1 ds) (hr.not f2 f3)
  refine xA (mo hb (BU (BV w3 (f:=aK) (λc hc=>(kY (d:=[c]) (λx hx=>by rw[du]at hx;rw[hx];exact hc) c (.head _)).2.2.2.2.2.2)) (hR aK rfl rfl rfl))) λe1 e2=> ?_
  rw[hZ,bU,bU]
  cases b with
  |nil=>exact bV w1
  |cons c b=>
   unfold dW
   rw[if_neg (by have:=uZ (hb c (.head _));simp;lia),e1,e2,if_neg (by simp),Nb w3 (hR _ rfl rfl rfl)]
   rw[qJ ds 100 r w4 (by lia) (hr.not rfl rfl)]
 |n+1, .tup cs ds,r,hw,hl,h1,hr=>by
  rw[gO,aI,aI]at hw
  obtain⟨zn3,w4⟩:=hw
  obtain⟨w1,w2⟩:=zn3
  refine bL (jZ (cs:=cs) (ds:=ds)) λp1 p2 p3=> ?_
  have e:sh (.tup cs ds)++r=40::(aG [44] (cs.map sh)++41::(a9 ds++r)):=by rw[gP];simp
  rw[e]
  show(if(40::(aG [44] (cs.map sh)++41::(a9 ds++r))).take 1=[40]then _ else _:Option (Ty×List Nat))=_
  rw[if_pos (show(40::(aG [44] (cs.map sh)++41::(a9 ds++r))).take 1=[40]from rfl)]
  unfold gI
  rw[show(40::(aG [44] (cs.map sh)++41::(a9 ds++r))).drop 1=aG [44] (cs.map sh)++41::(a9 ds++r)from rfl,
   Nd 100 _ (λT hT r hr=>BW n T r (ba.mp w2 T hT) (by have:=p1 T hT;exact rW ‹_› ‹_›) (by have:=p1 T hT;exact mM ‹_› ‹_› (by rfl)) hr) (by rintro rfl;exact bV w1) (ao ‹_› ‹_›) rfl]
  show(if(41::(a9 ds++r)).take 1=[41]then some (Ty.tup cs (arr 100 (a9 ds++r)).1,(arr 100 (a9 ds++r)).2)else none)=_
  rw[if_pos (show(41::(a9 ds++r)).take 1=[41]from rfl),qJ ds 100 r w4 (by lia) (hr.not rfl rfl)]
theorem qL{T:Ty}(hw:wf T=true)(hl:(sh T).length<=100):cZ (sh T)=some T:=by
 have:=BW 64 T [] hw (lA ‹_› (by rfl)) hl .nil
 rw[j9]at this
 unfold cZ
 rw[this]
end
section
theorem qM{s:List Nat}:∀{f:List (List Nat)} {w:List Nat},f≠[]->aG s (f++[w])=aG s f++s++w
 |[],w,h=>absurd rfl h
 |[x],w,_=>by show x++s++aG s [w]=_;rfl
 |x::y::r,w,_=>by
  have:=qM (s:=s) (f:=y::r) (w:=w) (by simp)
  rw[mA,jX (x:=x) (r:=y::r++[w]) (by simp),this,jX (x:=x) (r:=y::r) (by simp)]
  simp only[bU]
theorem Nf:∀(f:List (List Nat)) (w:List Nat) (c:Nat),aG [44] (f++[w++[c]])=aG [44] (f++[w])++[c]
 |[],w,c=>rfl
 |x::r,w,c=>by
  rw[qM (by simp),qM (by simp)];simp
theorem mq(f:List (List Nat))(w:List Nat)(c:Nat):iz (f++[w]) c=f++[w++[c]]:=by
 unfold iz;simp
theorem BX{α:Type}{f:List α}(h:f≠[]):∃g w,f=g++[w]:=⟨f.dropLast,f.getLast h,(Pr h).symm⟩
theorem Ng{f:List (List Nat)}{d:Int}{c:Nat}(h:c=44/\ dB d c=0):cM (f,d) c=(f++[[]],dB d c):=by
 show((if c=44/\ dB d c=0 then f++[[]]else iz f c),dB d c)=_
 rw[if_pos h]
theorem Nh{f:List (List Nat)}{d:Int}{c:Nat}(h:¬(c=44/\ dB d c=0)):cM (f,d) c=(iz f c,dB d c):=by
 show((if c=44/\ dB d c=0 then f++[[]]else iz f c),dB d c)=_
 rw[if_neg h]
theorem u3:∀(s:List Nat) (f:List (List Nat)) (d:Int),f≠[]->aG [44] (s.foldl cM (f,d)).1=aG [44] f++s
 |[],f,d,_=>by simp
 |c::s,f,d,h=>by
  rw[ka]
  refine dw (BX h) λg w zq2=> ?_;subst zq2
  by_cases hc:c=44/\ dB d c=0
  ·rw[Ng hc,u3 s _ _ (by simp),qM (by simp),hc.1];simp
  ·rw[Nh hc,u3 s _ _ (by rw[mq];simp),mq,Nf];simp
theorem Ni(s:List Nat):aG [44] (cz s)=s:=by
 unfold cz
 rw[u3 s [[]] 0 (by simp)];rfl
theorem BY:∀(s:List Nat) (p:List (List Nat)×Int),p.1≠[]->(s.foldl cM p).1≠[]
 |[],p,h=>h
 |c::s,p,h=>by
  rw[ka]
  refine BY s _ ?_
  unfold cM
  show(if c=44/\ dB p.2 c=0 then _ else _:List (List Nat))≠[]
  split
  ·simp
  ·unfold iz;simp
theorem Nj(s:List Nat):cz s≠[]:=BY s _ (by simp)
theorem u4:∀{s:List Nat} {g:List (List Nat)} {w:List Nat} {d:Int},(∀c∈s,c≠40/\ c≠41/\ c≠44)->s.foldl cM (g++[w],d)=(g++[w++s],d)
 |[],g,w,d,_=>by simp
 |c::s,g,w,d,h=>by
  refine bL (h c (.head _)) λh1 h2 h3=> ?_
  have e:cM (g++[w],d) c=(g++[w++[c]],d):=by
   unfold cM dB
   show((if c=44/\ _ then _ else _:List (List Nat)),(if c=40 then d+1 else if c=41 then d-1 else d))=_
   rw[if_neg (λq=>h3 q.1),if_neg h1,if_neg h2,mq]
  rw[ka,e,u4 (λx hx=>h x (.tail _ hx))];simp
theorem Nk{g:List (List Nat)}{w:List Nat}{d:Int}:cM (g++[w],d) 40=(g++[w++[40]],d+1):=by
 unfold cM dB
 show((if(40:Nat)=44/\ _ then _ else _:List (List Nat)),_)=_
 rw[if_neg (λq=>absurd q.1 (by decide)),mq];rfl
theorem Nl{g:List (List Nat)}{w:List Nat}{d:Int}:cM (g++[w],d) 41=(g++[w++[41]],d-1):=by
 unfold cM dB
 show((if(41:Nat)=44/\ _ then _ else _:List (List Nat)),_)=_
 rw[if_neg (λq=>absurd q.1 (by decide)),mq];rfl
theorem Nm{g:List (List Nat)}{w:List Nat}{d:Int}(h:d≠0):cM (g++[w],d) 44=(g++[w++[44]],d):=by
 unfold cM dB
 show((if(44:Nat)=44/\ d=0 then _ else _:List (List Nat)),d)=_
 rw[if_neg (λq=>h q.2),mq]
theorem Nn{f:List (List Nat)}:cM (f,0) 44=(f++[[]],0):=by
 unfold cM dB
 show((if(44:Nat)=44/\ (0:Int)=0 then _ else _:List (List Nat)),(0:Int))=_
 rw[if_pos ⟨rfl,rfl⟩]
theorem No{d:aF}(h:da d=true):∀c∈b9 d,c≠40/\ c≠41/\ c≠44:=by
 cases d with
 |none=>intro c hc;simp only[b9,bR,eQ,or_false]at hc;rcases hc with rfl|rfl<;>decide
 |some d=>
  intro c hc
  refine io (jY (show aQ d=true from h)) λa r ø ø h3=> ?_
  simp only[b9,gU,du]at hc
  rcases hc with (rfl|hc)|rfl
  ·decide
  ·refine DJ (kY h3 c hc) λø ø ø q4 q5 q6 ø=> ?_
   exact⟨q4,q5,q6⟩
  ·decide
theorem BZ{ds:List aF}(h:ds.all da=true):∀c∈a9 ds,c≠40/\ c≠41/\ c≠44:=λc hc=>by
 unfold a9 at hc
 rw[List.mem_flatten]at hc
 refine ay hc λl hl hc=> ?_
 rw[ij]at hl
 refine ay hl λd hd zq2=> ?_;subst zq2
 exact No (ba.mp h d hd) c hc
theorem Np{s:bg}(h:dY s=true):∀c∈bN s,bc c=true \/c=120:=by
 cases s with
 |none=>intro c hc;cases hc
 |one a=>intro c hc;exact .inl (ba.mp (jT (show aQ a=true from h)).2.2 c hc)
 |two a b=>
  have hw:aQ a=true/\ aQ b=true:=by simpa[dY] using h
  intro c hc
  simp only[bN,gU,du]at hc
  rcases hc with (hc|hc)|hc
  ·exact .inl (ba.mp (jT hw.1).2.2 c hc)
  ·exact .inr hc
  ·exact .inl (ba.mp (jT hw.2).2.2 c hc)
theorem B0{b:List Nat}{s:bg}(hb:b.all aK=true)(h:dY s=true):∀c∈b++bN s,c≠91/\ c≠93/\ c≠40/\ c≠41/\ c≠44:=λc hc=>by
 rcases gU.mp hc with hc|hc
 ·exact uZ (ba.mp hb c hc)
 ·rcases Np h c hc with hc|rfl
  ·have:=jU hc;exact DX ‹_›
  ·decide
mutual
theorem qN:∀(T:Ty) (g:List (List Nat)) (w:List Nat) (d:Int),wf T=true->0<=d->(sh T).foldl cM (g++[w],d)=(g++[w++sh T],d)
 | .bas b s ds,g,w,d,hw,hd=>by
  rw[gN,aI,aI,aI]at hw
  refine xA hw λzn1 w4=> ?_
  refine xA zn1 λzn2 w3=> ?_
  refine xA zn2 λw1 w2=> ?_
  refine u4 λc hc=> ?_
  rw[hZ]at hc
  refine ck (gU.mp hc) (λhc=> ?_) (λhc=> ?_)
  ·have:=B0 w2 w3 c hc;exact this.2.2
  ·exact BZ w4 c hc
 | .tup cs ds,g,w,d,hw,hd=>by
  rw[gO,aI,aI]at hw
  refine xA hw λzn3 w4=> ?_
  refine xA zn3 λw1 w2=> ?_
  have h40:([40]:List Nat).foldl cM (g++[w],d)=(g++[w++[40]],d+1):=Nk
  have h41:∀v:List Nat,([41]:List Nat).foldl cM (g++[v],d+1)=(g++[v++[41]],d+1-1):=λv=>Nl
  rw[gP,lr,lr,lr,h40,B1 cs g (w++[40]) (d+1) w2 (by lia),h41,u4 (BZ w4)]
  rw[show d+1-1=d by lia]
  simp
theorem B1:∀(cs:List Ty) (g:List (List Nat)) (w:List Nat) (d:Int),cs.all wf=true->0<d->(aG [44] (cs.map sh)).foldl cM (g++[w],d)=(g++[w++aG [44] (cs.map sh)],d)
 |[],g,w,d,_,_=>by simp[aG]
 |[T],g,w,d,hw,hd=>by
  rw[gV,aI]at hw
  exact qN T g w d hw.1 (oX ‹_› (by rfl))
 |T::U::cs,g,w,d,hw,hd=>by
  rw[gV,aI]at hw
  rw[fe,jX (by simp),lr,lr,qN T g w d hw.1 (oX ‹_› (by rfl)),ka,C2,Nm (by omega),B1 (U::cs) g _ d hw.2 hd]
  simp
end
theorem B2:∀(cs:List Ty) (T:Ty) (g:List (List Nat)),wf T=true->cs.all wf=true->(aG [44] ((T::cs).map sh)).foldl cM (g++[[]],0)=(g++(T::cs).map sh,0)
 |[],T,g,hT,_=>by
  show(sh T).foldl cM _=_
  rw[qN T g [] 0 hT (by lia)];rfl
 |U::cs,T,g,hT,hw=>by
  rw[gV,aI]at hw
  rw[fe,jX (by simp),lr,lr,qN T g [] 0 hT (by lia),ka,C2,Nn,B2 cs U _ hw.1 hw.2]
  simp
theorem Nq{cs:List Ty}(hc:cs≠[])(hw:cs.all wf=true):cz (aG [44] (cs.map sh))=cs.map sh:=by
 cases cs with
 |nil=>exact absurd rfl hc
 |cons T cs=>
  rw[gV,aI]at hw
  unfold cz
  have:=B2 cs T [] hw.1 hw.2
  rw[vT,vT]at this
  rw[this]
theorem B3{v i:List Nat}(hi:∀c∈i,c≠91):cx (v++91::(i++[93]))=v.length/\ cF (v++91::(i++[93]))=i/\ (v++91::(i++[93])).take v.length=v:=by
 have e:(v++91::(i++[93])).reverse=(93::i.reverse)++91::v.reverse:=by simp
 have h:=(mo (f:=λc=>c !=91) (a:=93::i.reverse) (r:=91::v.reverse) (λc hc=>by
  rcases bR.mp hc with rfl|hc
  ·rfl
  ·exact bne_iff_ne.mpr (hi c (List.mem_reverse.mp hc))) (d9.cons rfl)).1
 have hl:cx (v++91::(i++[93]))=v.length:=by
  unfold cx
  rw[e,h]
  simp
 refine⟨hl,?_,rI⟩
 unfold cF
 rw[hl]
 have e2:v++91::(i++[93])=(v++91::i)++[93]:=by simp
 rw[e2,cy,show([93]:List Nat).length=1 from rfl,ww,rI]
 have e3:v++91::i=(v++[91])++i:=by simp
 rw[e3,show v.length+1=(v++[91]).length by simp,List.drop_left]
theorem Nr{c:Nat}{t:List Nat}:ce [c] t=true↔c∈t:=by
 rw[nK];simp
theorem B4{v i:List Nat}:eW (v++91::(i++[93]))=true:=by
 unfold eW
 rw[aI,Nr]
 exact⟨li.mpr ⟨v++91::i,by simp⟩,by simp⟩
theorem Nt{t:List Nat}(h:eW t=true):t=t.take (cx t)++91::(cF t++[93]):=by
 refine bL (uL h) λh1 h2 h3=> ?_
 have hb:=BE h
 unfold eW at h
 rw[aI]at h
 refine xE (li.mp h.1) λs hs=> ?_
 have e1:t.take (t.length-1)=s:=by
  rw[<-hs,cy,show([93]:List Nat).length=1 from rfl,ww,rI]
 have e2:cF t=s.drop (cx t+1):=by unfold cF;rw[e1]
 have hsl:t.length=s.length+1:=by rw[<-hs];simp
 have e3:s[cx t]? =some 91:=by
  rw[<-hs,Pn (by rw[hs];lia)]at h2
  rw[hs]at h2;exact h2
 have e4:t.take (cx t)=s.take (cx t):=by
  have:(s++[93]).take (cx t)=s.take (cx t):=List.take_append_of_le_length (by lia)
  rw[hs]at this;exact this
 rw[e4,e2]
 have e5:s.drop (cx t)=91::s.drop (cx t+1):=by
  refine xE (vR.mp e3) λhlt hg=> ?_
  rw[v4 hlt,hg]
 rw[<-mA,<-e5,<-bU,kh]
 exact hs.symm
theorem B5:b9 none=91::([]++[93]):=rfl
theorem B6(d:List Nat):b9 (some d)=91::(d++[93]):=by simp[b9]
theorem kZ(es:List aF)(d:aF):a9 (es++[d])=a9 es++b9 d:=by rw[M5];simp[a9]
theorem u5:∀n t ds u ds',eK n t ds=some (u,ds')->∃es,ds' =es++ds/\ t=u++a9 es/\ es.all da=true
 |0,t,ds,u,ds',h=>by exact al h
 |n+1,t,ds,u,ds',h=>by
  unfold eK at h
  by_cases h1:eW t=true
  ·rw[if_pos h1]at h
   have hs:=Nt h1
   by_cases h2:cF t=[]
   ·rw[if_pos h2]at h
    refine bA (u5 n _ _ _ _ h) λes e1 e2 e3=> ?_
    refine⟨es++[none],by rw[e1];simp,?_,by rw[rJ,e3];rfl⟩
    rw[kZ,<-bU,<-e2,B5]
    rw[h2]at hs;exact hs
   ·rw[if_neg h2]at h
    by_cases h3:aQ (cF t)=true
    ·rw[if_pos h3]at h
     refine bA (u5 n _ _ _ _ h) λes e1 e2 e3=> ?_
     refine⟨es++[some (cF t)],by rw[e1];simp,?_,by rw[rJ,e3];simp[da,h3]⟩
     rw[kZ,<-bU,<-e2,B6]
     exact hs
    ·rw[if_neg h3]at h;exact al h
  ·rw[if_neg h1]at h
   cases aq h
   exact⟨[],rfl,by simp[a9],rfl⟩
theorem qO:∀n (es:List aF) u ds,es.length<n->es.all da=true->eW u=false->eK n (u++a9 es) ds=some (u,es++ds)
 |0,es,u,ds,h,_,_=>by omega
 |n+1,es,u,ds,h,hw,hu=>by
  by_cases he:es=[]
  ·subst he
   unfold eK
   rw[show u++a9 []=u by simp[a9],if_neg (by rw[hu];decide)];rfl
  ·refine dw (BX he) λes' d zq2=> ?_;subst zq2
   rw[rJ,aI]at hw
   have hl:es'.length<n:=by simp at h;omega
   rw[kZ,<-bU]
   cases d with
   |none=>
    rw[B5]
    refine bL (B3 (v:=u++a9 es') (i:=[]) (λc hc=>nomatch hc)) λh1 h2 h3=> ?_
    unfold eK
    rw[if_pos B4,if_pos h2,h1,h3,qO n es' u _ hl hw.1 hu];simp
   |some d=>
    have hd:aQ d=true:=by have:=hw.2;simpa[da] using this
    refine io (jY hd) λc r ec ø h5=> ?_
    rw[B6]
    refine bL (B3 (v:=u++a9 es') (i:=d) (λc hc=>(kY h5 c hc).1)) λh1 h2 h3=> ?_
    unfold eK
    rw[if_pos B4,if_neg (by rw[h2,ec];simp),if_pos (by rw[h2];exact hd),h1,h2,h3,qO n es' u _ hl hw.1 hu];simp
theorem B7(c:Nat):∀s:List Nat,aG [c] (bJ c s)=s
 |[]=>rfl
 |d::r=>by
  have ih:=B7 c r
  unfold bJ
  by_cases hd:d=c
  ·rw[if_pos hd]
   cases e:bJ c r with
   |nil=>rw[e]at ih;rw[<-ih,hd];exact absurd e (by
     intro q
     cases r with
     |nil=>exact mR q
     |cons a r=>
      unfold bJ at q
      split at q
      ·exact mR q
      ·split at q<;>exact mR q)
   |cons w ws=>
    rw[jX (by simp),<-e,ih,hd];rfl
  ·rw[if_neg hd]
   cases e:bJ c r with
   |nil=>rw[e]at ih;rw[<-ih];rfl
   |cons w ws=>
    rw[e]at ih
    cases ws with
    |nil=>rw[<-ih];rfl
    |cons x xs=>rw[<-ih];rfl
theorem u6{c:Nat}:∀{s:List Nat},(∀x∈s,x≠c)->bJ c s=[s]
 |[],_=>rfl
 |d::r,h=>by
  unfold bJ
  rw[if_neg (h d (.head _)),u6 λx hx=>h x (.tail _ hx)]
theorem B8{c:Nat}:∀{s t:List Nat},(∀x∈s,x≠c)->bJ c (s++c::t)=s::bJ c t
 |[],t,_=>by
  show bJ c (c::t)=_
  conv=>lhs;unfold bJ
  rw[if_pos rfl]
 |d::r,t,h=>by
  show bJ c (d::(r++c::t))=_
  conv=>lhs;unfold bJ
  rw[if_neg (h d (.head _)),B8 λx hx=>h x (.tail _ hx)]
theorem Nu{t b:List Nat}{s:bg}(h:eV t=some (b,s)):t=b++bN s/\ b≠[]/\ b.all aK=true/\ dY s=true:=by
 unfold eV at h
 have hj:=mH (p:=aK) (l:=t)
 have hs:=B7 120 (t.dropWhile aK)
 by_cases h1:t.takeWhile aK=[]
 ·rw[if_pos h1]at h;exact al h
 ·rw[if_neg h1]at h
  by_cases h2:t.dropWhile aK=[]
  ·rw[if_pos h2]at h
   cases aq h
   rw[h2]at hj
   exact⟨hj.symm,h1,mI,rfl⟩
  ·rw[if_neg h2]at h
   refine eR h λz hz h=> ?_
   cases h
   rcases uG hz with ⟨a,e,h3,rfl⟩|⟨a,b',e,h3,h4,rfl⟩
   ·rw[e]at hs
    exact⟨by rw[show bN (.one a)=a from rfl,show a=t.dropWhile aK from hs];exact hj.symm,h1,mI,h3⟩
   ·rw[e]at hs
    exact⟨by rw[show bN (.two a b')=a++[120]++b' from rfl,show a++[120]++b' =t.dropWhile aK from hs];exact hj.symm,h1,mI,by show(aQ a&&aQ b')=true;rw[h3,h4];rfl⟩
theorem Nv{b:List Nat}{s:bg}(h1:b≠[])(h2:b.all aK=true)(h3:dY s=true):eV (b++bN s)=some (b,s):=by
 refine xA (mo (ba.mp h2) (BV h3 (f:=aK) (λc hc=>(kY (d:=[c]) (λx hx=>by rw[du]at hx;rw[hx];exact hc) c (.head _)).2.2.2.2.2.2))) λe1 e2=> ?_
 unfold eV
 rw[e1,e2,if_neg h1]
 cases s with
 |none=>exact if_pos rfl
 |one a=>
  refine io (jY (show aQ a=true from h3)) λc r ec ø h5=> ?_
  have e:bJ 120 (bN (.one a))=[a]:=u6 λx hx=>(kY h5 x hx).2.2.1
  rw[if_neg (by show a≠[];rw[ec];simp),e,show iG [a]=some (.one a)from if_pos h3];rfl
 |two a b' =>
  have hw:aQ a=true/\ aQ b' =true:=by simpa[dY] using h3
  refine io (jY hw.1) λc r ec ø h5=> ?_
  refine io (jY hw.2) λc' r' ec' ø h6=> ?_
  have e:bJ 120 (bN (.two a b'))=[a,b']:=by
   rw[show bN (.two a b')=a++120::b' by simp[bN],B8 λx hx=>(kY h5 x hx).2.2.1,u6 λx hx=>(kY h6 x hx).2.2.1]
  rw[if_neg (by show a++[120]++b'≠[];simp),e,show iG [a,b']=some (.two a b')from if_pos h3];rfl
noncomputable def dp:Ty->Rd
 | .bas b s ds=> .nam b s ds
 | .tup cs ds=> .tup (cs.map sh) ds
theorem Nw{u:List Nat}(h:fF u=true):u=40::(dX u++[41]):=by
 unfold fF at h
 rw[aI]at h
 refine xE (lh.mp h.1) λs hs=> ?_
 refine xE (li.mp h.2) λp hp=> ?_
 cases p with
 |nil=>rw[<-hp]at hs;cases hs
 |cons a p=>
  have ha:a=40:=by rw[<-hp]at hs;cases hs;rfl
  subst ha
  unfold dX
  have:u.take (u.length-1)=40::p:=by
   rw[<-hp,cy,show([41]:List Nat).length=1 from rfl,ww,rI]
  rw[this,CU,gz]
  exact hp.symm
theorem Nx(m:List Nat):fF (40::(m++[41]))=true/\ dX (40::(m++[41]))=m:=by
 constructor
 ·unfold fF
  rw[aI]
  exact⟨lh.mpr ⟨m++[41],rfl⟩,li.mpr ⟨40::m,rfl⟩⟩
 ·unfold dX
  rw[show 40::(m++[41])=(40::m)++[41]from rfl,cy,show([41]:List Nat).length=1 from rfl,ww,rI];rfl
theorem B9:∀n t r,rd n t=some r->∃T,wf T=true/\ sh T=t/\ r=dp T
 |0,t,r,h=>by exact al h
 |n+1,t,r,h=>by
  unfold rd at h
  cases e:eK 100 t []with
  |none=>rw[e]at h;exact al h
  |some q=>
   obtain⟨u,ds⟩:=q
   rw[e]at h
   refine bA (u5 _ _ _ _ _ e) λes e1 e2 e3=> ?_
   rw[j9]at e1
   subst e1
   have h:(if fF u=true then(if(cz (dX u)).any (λp=>(rd n p).isNone)=true then none else some (Rd.tup (cz (dX u)) ds))else match eV u with
    |none=>none
    |some (b,s)=>some (.nam b s ds))=some r:=h
   by_cases h1:fF u=true
   ·rw[if_pos h1]at h
    by_cases h2:(cz (dX u)).any (λp=>(rd n p).isNone)=true
    ·rw[if_pos h2]at h;exact al h
    ·rw[if_neg h2]at h
     obtain rfl:=aq h
     have hall:∀p∈cz (dX u),∃T,wf T=true/\ sh T=p:=λp hp=>by
      have h3:(rd n p).isNone=false:=by
       rw[mE,wg]at h2
       exact vS.mpr (h2 p hp)
      cases e4:rd n p with
      |none=>rw[e4]at h3;exact km h3
      |some r' =>
       refine bA (B9 n p r' e4) λT t1 t2 ø=> ?_
       exact⟨T,t1,t2⟩
     have hcs:∀ps:List (List Nat),(∀p∈ps,∃T,wf T=true/\ sh T=p)->∃cs:List Ty,cs.all wf=true/\ cs.map sh=ps:=by
      intro ps
      induction ps with
      |nil=>exact λø=>⟨[],rfl,rfl⟩
      |cons p ps ih=>
       intro hp
       refine ay (hp p (.head _)) λT t1 t2=> ?_
       refine ay (ih λq hq=>hp q (.tail _ hq)) λcs c1 c2=> ?_
       exact⟨T::cs,by rw[gV,t1,c1];rfl,by rw[fe,t2,c2]⟩
     refine ay (hcs _ hall) λcs c1 c2=> ?_
     have hne:cs≠[]:=by rintro rfl;exact Nj _ c2.symm
     refine⟨.tup cs ds,by rw[gO,c1,e3,qG hne];rfl,?_,by rw[dp,c2]⟩
     rw[gP,c2,Ni,e2]
     conv=>rhs;rw[(Nw h1)]
     simp
   ·rw[if_neg h1]at h
    cases e4:eV u with
    |none=>rw[e4]at h;exact al h
    |some q=>
     obtain⟨b,s⟩:=q
     rw[e4]at h
     obtain rfl:=aq h
     refine oU (Nu e4) λn1 n2 n3 n4=> ?_
     exact⟨.bas b s ds,by rw[gN,n3,n4,e3,qG n2];rfl,by rw[hZ,<-n1,<-e2],rfl⟩
theorem B':∀n T,wf T=true->(sh T).length<2*n->(sh T).length<=100->rd n (sh T)=some (dp T)
 |0,T,_,h,_=>by lia
 |n+1, .bas b s ds,hw,hl,hh=>by
  rw[gN,aI,aI,aI]at hw
  obtain⟨zn4,w4⟩:=hw
  obtain⟨zn5,w3⟩:=zn4
  obtain⟨w1,w2⟩:=zn5
  refine xA (qK (b:=b) (s:=s) (ds:=ds)) λl1 l2=> ?_
  have hb:b≠[]:=by rintro rfl;exact bV w1
  have hn:=B0 w2 w3
  have h1:eW (b++bN s)=false:=by
   unfold eW
   rw[lu]
   right
   cases e:ce [91] (b++bN s)with
   |false=>rfl
   |true=>exact absurd rfl (hn 91 (BC e)).1
  have h2:fF (b++bN s)=false:=by
   unfold fF
   rw[lu]
   left
   cases e:[40].isPrefixOf (b++bN s)with
   |false=>rfl
   |true=>
    refine xE (lh.mp e) λr hr=> ?_
    exact absurd rfl (hn 40 (by rw[<-hr];simp)).2.2.1
  rw[hZ]
  unfold rd
  rw[qO 100 ds _ [] (by lia) w4 h1]
  show(if fF (b++bN s)=true then _ else match eV (b++bN s)with
    |none=>none
    |some (b,s)=>some (Rd.nam b s (ds++[])))=_
  rw[if_neg (by rw[h2];decide),Nv hb w2 w3,j9];rfl
 |n+1, .tup cs ds,hw,hl,hh=>by
  rw[gO,aI,aI]at hw
  obtain⟨zn6,w4⟩:=hw
  obtain⟨w1,w2⟩:=zn6
  refine bL (jZ (cs:=cs) (ds:=ds)) λp1 p2 p3=> ?_
  have hc:cs≠[]:=by rintro rfl;exact bV w1
  have hu:eW (40::(aG [44] (cs.map sh)++[41]))=false:=by
   unfold eW
   rw[lu]
   left
   cases e:[93].isSuffixOf (40::(aG [44] (cs.map sh)++[41]))with
   |false=>rfl
   |true=>
    refine xE (li.mp e) λp hp=> ?_
    have h5:(p++[93]).getLast? =(40::(aG [44] (cs.map sh)++[41])).getLast? :=by rw[hp]
    rw[<-mA,Ps,Ps]at h5
    simp at h5
  refine xA (Nx (aG [44] (cs.map sh))) λt1 t2=> ?_
  have e:sh (.tup cs ds)=40::(aG [44] (cs.map sh)++[41])++a9 ds:=by rw[gP];simp
  rw[e]
  unfold rd
  rw[qO 100 ds _ [] (by lia) w4 hu]
  show(if fF (40::(aG [44] (cs.map sh)++[41]))=true then(if(cz (dX (40::(aG [44] (cs.map sh)++[41])))).any (λp=>(rd n p).isNone)=true then none else some (Rd.tup (cz (dX (40::(aG [44] (cs.map sh)++[41])))) (ds++[])))else _)=_
  rw[if_pos t1,t2,Nq hc w2,j9,if_neg]
  ·rfl
  ·rw[mE,wg]
   intro p hp
   refine ay (ij.mp hp) λT hT zq2=> ?_;subst zq2
   have:=p1 T hT
   rw[B' n T (ba.mp w2 T hT) (rW ‹_› ‹_›) (mM ‹_› ‹_› (by rfl))]
   simp
theorem Ny{x:List Nat}(hx:x.length<=90):rd 64 x=(cZ x).map dp:=by
 cases e:cZ x with
 |some T=>
  refine xA (qH e) λh1 h2=> ?_
  subst h1
  exact B' 64 T h2 (lA ‹_› (by rfl)) (aV ‹_› (by rfl))
 |none=>
  cases e2:rd 64 x with
  |none=>rfl
  |some r=>
   refine bA (B9 _ _ _ e2) λT t1 t2 ø=> ?_
   subst t2
   rw[qL t1 (aV ‹_› (by rfl))]at e
   exact lD e
end
section
noncomputable abbrev nm(x:String):List Nat:=an (aa x)
noncomputable def iJ:bg->Bool
 | .none=>true
 |_=>false
mutual
noncomputable def cS:Ty->Bool
 | .bas b s ds=>ew ds||(b==nm "string")||(b==nm "bytes" &&iJ s)
 | .tup cs ds=>ew ds||qP cs
noncomputable def qP:List Ty->Bool
 |[]=>false
 |T::r=>cS T||qP r
end
theorem u7:∀cs,qP cs=cs.any cS
 |[]=>rfl
 |T::r=>by show(cS T||qP r)=_;rw[u7 r];rfl
noncomputable def nZ:bg->Bool
 | .none=>true
 | .one a=>decide (aL a<=32)
 | .two .. =>false
noncomputable def j0:bg->Bool
 | .one a=>decide (8<=aL a)&&decide (aL a<=256)&&(aL a%8==0)
 |_=>false
noncomputable def ia:bg->Bool
 | .two a c=>decide (8<=aL a)&&decide (aL a<=256)&&(aL a%8==0)&&decide (aL c<=80)
 |_=>false
noncomputable def u8:bg->Bool
 | .one _=>true
 |_=>false
noncomputable def cu(b:List Nat)(s:bg):Bool:=
 if b=nm "string" then iJ s
 else if b=nm "bytes" then nZ s
 else if b=nm "int" \/b=nm "uint" then j0 s
 else if b=nm "fixed" \/b=nm "ufixed" then ia s
 else if b=nm "hash" then u8 s
 else if b=nm "address" then iJ s
 else true
mutual
noncomputable def cv:Ty->Bool
 | .bas b s _=>cu b s
 | .tup cs _=>qQ cs
noncomputable def qQ:List Ty->Bool
 |[]=>true
 |T::r=>cv T&&qQ r
end
theorem u9:∀cs,qQ cs=cs.all cv
 |[]=>rfl
 |T::r=>by show(cv T&&qQ r)=_;rw[u9 r];rfl
section
variable{C:Calls}{g:Bool}{sc:Scope}{ρ ρ':aj}{o:aB}{k:Nat}
theorem gf{ex:aC->aj->aB}{s:aC}(h:ex s ρ=o):aw ex [s] ρ=o:=by
 show(match ex s ρ with| .next ρ' =>aw ex [] ρ'|o=>o)=_
 rw[h]
 cases o<;>rfl
theorem Nz{gen:Bool}{st:aC}{args:List PV}{names:List Str}(hn:au st=names)(hl:args.length=names.length)(h:aw (pX C gen 12 (cg st)) (aS st) (names.zip args)= .next ρ'):aN C gen st args= .ok .none:=by
 rw[ma hn hl h];rfl
theorem QY{gen:Bool}{st:aC}{args:List PV}{names:List Str}{c:XC}(hn:au st=names)(hl:args.length=names.length)(h:aw (pX C gen 12 (cg st)) (aS st) (names.zip args)= .exc c ρ'):aN C gen st args= .exc c:=by
 rw[ma hn hl h];rfl
theorem u'{gen:Bool}{st:aC}{args:List PV}{names:List Str}{c:XC}(hn:au st=names)(hl:args.length=names.length)(h:aw (pX C gen 12 (cg st)) (aS st) (names.zip args)= .rais c ρ'):aN C gen st args= .exc c:=by
 rw[ma hn hl h];rfl
theorem NA{gen:Bool}{st:aC}{args:List PV}{names:List Str}{c:XC}(hn:au st=names)(hl:args.length=names.length)(h:aw (pX C gen 12 (cg st)) (aS st) (names.zip args)= .held c):aN C gen st args= .exc c:=by
 rw[ma hn hl h];rfl
theorem jd{a b:Int}:bn C .Lt (.int a) (.int b)= .ok (decide (a<b)):=rfl
theorem vc{a b:Int}:bn C .Gt (.int a) (.int b)= .ok (decide (a>b)):=rfl
theorem vd{a b:Int}:bn C .LtE (.int a) (.int b)= .ok (decide (a<=b)):=rfl
theorem ve{a b:Int}:bn C .Eq (.int a) (.int b)= .ok (a==b):=by
 show aE (if(true&&true)=true then some ((PV.int a).same (.int b))else none)=_
 rfl
theorem n5{a b:Int}:bn C .NotEq (.int a) (.int b)= .ok (!(a==b)):=by
 show aE (if(true&&true)=true then some (!(PV.int a).same (.int b))else none)=_
 rfl
theorem k8{a:Int}:bH .Mod (.int a) (.int 8)=some (.int (a%8)):=by
 show(if 0<(8:Int)/\ (8:Int)<=1000 then some (PV.int (a%8))else none)=_
 rw[if_pos (by decide)]
theorem NB{c:Nat}(h:aK c=true):c<=122:=by
 unfold aK at h
 rw[gS,aI,aI]at h
 have:(65<=c/\ c<=90) \/(97<=c/\ c<=122):=by simpa using h
 omega
theorem NC{b:List Nat}(h:b.all aK=true):(PV.str b).flat 4=true:=by
 refine ba.mpr λc hc=> ?_
 have:=NB (ba.mp h c hc)
 exact decide_eq_true (lA ‹_› (by rfl))
theorem qR{b x y:List Nat}(hb:b.all aK=true)(hx:(PV.str x).flat 4=true)(hy:(PV.str y).flat 4=true):bn C .In (.str b) (.tuple [.str x, .str y])= .ok (x==b||y==b):=by
 show aE (if((PV.str b).flat 4&&([PV.str x, .str y].all (PV.flat 4)))=true then some ([PV.str x, .str y].any λy=>y.same (.str b))else none)=_
 rw[NC hb,gV,gV,hx,hy]
 show Res.ok (((⟨x.toArray⟩:Str)==⟨b.toArray⟩)||(((⟨y.toArray⟩:Str)==⟨b.toArray⟩)||false))=_
 rw[xd,xd,Bool.or_false]
theorem ND(fs:List (Str×PV))(m:List Nat):aN C false (am (ag 12) 5) [.inst .bas fs, .str m]= .exc .abi:=by
 refine u' (names:=[aa "self",aa "error_msg"]) (ρ':=[(aa "self", .inst .bas fs),(aa "error_msg", .str m)]) (by kernel_rfl) rfl ?_
 show aw _ _ [(aa "self", .inst .bas fs),(aa "error_msg", .str m)]=_
 (conv=>lhs;arg 2;whnf)
 apply gf
 apply kP
 focus kernel_rfl
 focus (repeat' first|tb_rel)
 focus kernel_rfl
end
end
section
theorem Cb:∀(s:List Nat) (a:Nat),a<=gK s a
 |[],a=>bO _
 |c::r,a=>by
  show a<=gK r (a*10+(c-48))
  exact ao (by lia) (Cb r _)
theorem NE{d:List Nat}(h:aQ d=true):1<=aL d:=by
 refine bL (jT h) λh1 h2 h3=> ?_
 rw[uP h3]
 cases d with
 |nil=>exact absurd rfl h1
 |cons c r=>
  rw[gV,aI]at h3
  have hr:=jU h3.1
  have hc:c≠48:=λq=>h2 (by rw[q];rfl)
  have:=Cb r (0*10+(c-48))
  show(1:Int)<=((gK r (0*10+(c-48)):Nat):Int)
  lia
theorem eL{d:List Nat}(h:aQ d=true)(hl:d.length<=90):eS (.int (aL d))= .ok (.str d):=by
 show(if(small (aL d)&&decide ((ej (aL d)).length<=fY))=true then Res.ok (PV.str (ej (aL d)))else .stuck)=_
 rw[uQ h,uR h hl,if_pos]
 rw[CT]
 exact decide_eq_true (by unfold fY;exact aV ‹_› (by rfl))
section
variable{C:Calls}
noncomputable abbrev Rv(C:Calls)(b:List Nat)(s:bg)(ds:List aF)(ok:Bool):Prop:=aN C false (am (ag 14) 4) [dU (.bas b s ds)]=if ok=true then .ok .none else .exc .abi
noncomputable abbrev NF(b:List Nat)(s:bg)(ds:List aF):aj:=[(aa "self", .inst .bas [(aa "arrlist",bM ds),(aa "base", .str b),(aa "sub",cC s)])]
noncomputable def eX(o:aB)(ok:Bool):Prop:=jG o=if ok=true then .ok .none else .exc .abi
section
variable{g:Bool}{k:Nat}{sc:Scope}{ρ ρ':aj}{ok:Bool}{ex:aC->aj->aB}
theorem j3:eX (aw ex [] ρ) true:=rfl
theorem iK{o:aB}(h:o= .exc .abi ρ'):eX o false:=by rw[h];rfl
theorem mr{s r}(h:ex s ρ= .next ρ')(hr:eX (aw ex r ρ') ok):eX (aw ex (s::r) ρ) ok:=by rw[aO h rfl];exact hr
theorem gw{t b e p c}(ht:(pE C g 24).tst sc t ρ= .ok c)(hc:c=false)(h:eX (aw (pX C g k sc) e ρ) ok):eX (aw (pX C g (k+1) sc) [.If t b e p] ρ) ok:=by rw[gf (jN ht hc rfl)];exact h
theorem fG{t b e p c}(ht:(pE C g 24).tst sc t ρ= .ok c)(hc:c=true)(h:eX (aw (pX C g k sc) b ρ) ok):eX (aw (pX C g (k+1) sc) [.If t b e p] ρ) ok:=by rw[gf (kO ht hc rfl)];exact h
theorem eM{t b p r c}(ht:(pE C g 24).tst sc t ρ= .ok c)(hc:c=false)(h:eX (aw (pX C g (k+1) sc) r ρ) ok):eX (aw (pX C g (k+1) sc) (.If t b [] p::r) ρ) ok:=mr (jN ht hc aR) h
theorem j4{t b p r c}(ht:(pE C g 24).tst sc t ρ= .ok c)(hc:c=true)(h:aw (pX C g k sc) b ρ= .exc .abi ρ'):eX (aw (pX C g (k+1) sc) (.If t b [] p::r) ρ) false:=iK (aD (kO ht hc h) rfl)
end
theorem NG{b:List Nat}{s:bg}{ds:List aF}{ok:Bool}(h:eX (aw (pX C false 12 (cg (am (ag 14) 4))) (aS (am (ag 14) 4)) (NF b s ds)) ok):Rv C b s ds ok:=(ma (names:=[aa "self"]) (by kernel_rfl) rfl rfl).trans h
noncomputable abbrev NH(C:Calls):Prop:=∀(fs:List (Str×PV)) (m:List Nat),C.meth .bas (aa "invalidate") [.inst .bas fs, .str m]= .exc .abi
theorem NI{b:List Nat}{s:bg}{ds:List aF}(hb:b.all aK=true)(hs:dY s=true)(hl:(bN s).length<=90)(hI:NH C):Rv C b s ds (cu b s):=by
 apply NG
 (conv=>arg 1;arg 2;whnf)
 (apply mr;(focus (apply iC;kernel_rfl;(focus ((repeat' first|tb_rel|tb_start);done));lcg_sub;lcg_sub)))
 by_cases h1:b=nm "string"
 ·rw[show cu b s=iJ s by unfold cu;rw[if_pos h1]]
  (apply fG;(focus ((repeat' first|tb_rel|exact bi);done));(focus (exact beq_iff_eq.mpr h1;done)))
  cases s with
  |none=>
   (apply gw;(focus ((repeat' first|tb_rel|exact iE);done));(focus (rfl;done)))
   exact j3
  |one a=>
   (apply fG;(focus ((repeat' first|tb_rel|exact iE);done));(focus (rfl;done)))
   apply iK
   (apply aD;(focus (apply d5;(focus ((repeat' first|tb_rel|exact eL (by assumption) (by assumption)|exact rfl|exact hI _ _);done))));exact rfl)
  |two a c=>
   (apply fG;(focus ((repeat' first|tb_rel|exact iE);done));(focus (rfl;done)))
   apply iK
   (apply aD;(focus (apply d5;(focus ((repeat' first|tb_rel|exact eL (by assumption) (by assumption)|exact rfl|exact hI _ _);done))));exact rfl)
 (apply gw;(focus ((repeat' first|tb_rel|exact bi);done));(focus (exact beq_eq_false_iff_ne.mpr h1;done)))
 by_cases h2:b=nm "bytes"
 ·rw[show cu b s=nZ s by unfold cu;rw[if_neg h1,if_pos h2]]
  (apply fG;(focus ((repeat' first|tb_rel|exact bi);done));(focus (exact beq_iff_eq.mpr h2;done)))
  cases s with
  |none=>
   (apply eM;(focus ((repeat' first|tb_rel|exact cR|exact ml);done));(focus (rfl;done)))
   refine gw (c:=false&&false) (gd (kN ?_ λq=>nomatch q)) rfl j3
   (repeat' first|tb_rel|exact ml)
  |one a=>
   by_cases h:aL a<=32
   ·rw[show nZ (.one a)=true from decide_eq_true h]
    (apply eM;(focus ((repeat' first|tb_rel|exact cR|exact hY);done));(focus (rfl;done)))
    (apply gw;(focus ((repeat' first|tb_rel|exact hY|exact vc);done));(focus (simp;omega;done)))
    exact j3
   ·rw[show nZ (.one a)=false from decide_eq_false h]
    (apply eM;(focus ((repeat' first|tb_rel|exact cR|exact hY);done));(focus (rfl;done)))
    (apply fG;(focus ((repeat' first|tb_rel|exact hY|exact vc);done));(focus (simp;omega;done)))
    apply iK
    (apply aD;(focus (apply d5;(focus ((repeat' first|tb_rel|exact eL (by assumption) (by assumption)|exact rfl|exact hI _ _);done))));exact rfl)
  |two a c=>
   (apply j4;(focus ((repeat' first|tb_rel|exact cR|exact mn);done));(focus (rfl;done)))
   (apply aD;(focus (apply d5;(focus ((repeat' first|tb_rel|exact eL (by assumption) (by assumption)|exact rfl|exact hI _ _);done))));exact rfl)
 (apply gw;(focus ((repeat' first|tb_rel|exact bi);done));(focus (exact beq_eq_false_iff_ne.mpr h2;done)))
 by_cases h3:b=nm "int" \/b=nm "uint"
 ·have h3':(nm "int" ==b||nm "uint" ==b)=true:=by
   rw[gS,beq_iff_eq,beq_iff_eq]
   exact h3.imp Eq.symm Eq.symm
  rw[show cu b s=j0 s by unfold cu;rw[if_neg h1,if_neg h2,if_pos h3]]
  (apply fG;(focus ((repeat' first|tb_rel|exact qR hb (by decide+kernel) (by decide+kernel));done));(focus (exact h3';done)))
  cases s with
  |none=>
   (apply j4;(focus ((repeat' first|tb_rel|exact ml);done));(focus (rfl;done)))
   (apply aD;(focus (apply d5;(focus ((repeat' first|tb_rel|exact eL (by assumption) (by assumption)|exact rfl|exact hI _ _);done))));exact rfl)
  |one a=>
   by_cases q1:8<=aL a/\ aL a<=256
   ·by_cases q2:aL a%8=0
    ·rw[show j0 (.one a)=true by simp[j0,q1,q2]]
     (apply eM;(focus ((repeat' first|tb_rel|exact hY);done));(focus (rfl;done)))
     (apply eM;(focus ((repeat' first|tb_rel|exact jd);done));(focus (simp;omega;done)))
     (apply gw;(focus ((repeat' first|tb_rel|exact k8|exact n5);done));(focus (simp[q2];done)))
     exact j3
    ·rw[show j0 (.one a)=false by simp[j0,q2]]
     (apply eM;(focus ((repeat' first|tb_rel|exact hY);done));(focus (rfl;done)))
     (apply eM;(focus ((repeat' first|tb_rel|exact jd);done));(focus (simp;omega;done)))
     (apply fG;(focus ((repeat' first|tb_rel|exact k8|exact n5);done));(focus (simp[q2];done)))
     apply iK
     (apply aD;(focus (apply d5;(focus ((repeat' first|tb_rel|exact eL (by assumption) (by assumption)|exact rfl|exact hI _ _);done))));exact rfl)
   ·rw[show j0 (.one a)=false by
     show(decide (8<=aL a)&&decide (aL a<=256)&&(aL a%8==0))=false
     rw[lu];left;rw[lu,decide_eq_false_iff_not,decide_eq_false_iff_not];omega]
    (apply eM;(focus ((repeat' first|tb_rel|exact hY);done));(focus (rfl;done)))
    (apply j4;(focus ((repeat' first|tb_rel|exact jd);done));(focus (simp;omega;done)))
    (apply aD;(focus (apply d5;(focus ((repeat' first|tb_rel|exact eL (by assumption) (by assumption)|exact rfl|exact hI _ _);done))));exact rfl)
  |two a c=>
   (apply j4;(focus ((repeat' first|tb_rel|exact mn);done));(focus (rfl;done)))
   (apply aD;(focus (apply d5;(focus ((repeat' first|tb_rel|exact eL (by assumption) (by assumption)|exact rfl|exact hI _ _);done))));exact rfl)
 have h3':(nm "int" ==b||nm "uint" ==b)=false:=by
  rw[ki,beq_eq_false_iff_ne,beq_eq_false_iff_ne]
  exact⟨λq=>h3 (.inl q.symm),λq=>h3 (.inr q.symm)⟩
 (apply gw;(focus ((repeat' first|tb_rel|exact qR hb (by decide+kernel) (by decide+kernel));done));(focus (exact h3';done)))
 by_cases h4:b=nm "fixed" \/b=nm "ufixed"
 ·have h4':(nm "fixed" ==b||nm "ufixed" ==b)=true:=by
   rw[gS,beq_iff_eq,beq_iff_eq]
   exact h4.imp Eq.symm Eq.symm
  rw[show cu b s=ia s by unfold cu;rw[if_neg h1,if_neg h2,if_neg h3,if_pos h4]]
  (apply fG;(focus ((repeat' first|tb_rel|exact qR hb (by decide+kernel) (by decide+kernel));done));(focus (exact h4';done)))
  cases s with
  |none=>
   (apply j4;(focus ((repeat' first|tb_rel|exact kW);done));(focus (rfl;done)))
   (apply aD;(focus (apply d5;(focus ((repeat' first|tb_rel|exact eL (by assumption) (by assumption)|exact rfl|exact hI _ _);done))));exact rfl)
  |one a=>
   (apply j4;(focus ((repeat' first|tb_rel|exact BN);done));(focus (rfl;done)))
   (apply aD;(focus (apply d5;(focus ((repeat' first|tb_rel|exact eL (by assumption) (by assumption)|exact rfl|exact hI _ _);done))));exact rfl)
  |two a c=>
   have hac:aQ a=true/\ aQ c=true:=by simpa[dY] using hs
   have hcn:=hac.2
   have hcl:c.length<=90:=by simp[bN]at hl;omega
   have hc1:1<=aL c:=NE hac.2
   by_cases q1:8<=aL a/\ aL a<=256
   ·by_cases q2:aL a%8=0
    ·by_cases q3:aL c<=80
     ·rw[show ia (.two a c)=true by simp[ia,q1,q2,q3]]
      show eX (aw _ _ [(aa "self", .inst .bas [(aa "arrlist",bM ds),(aa "base", .str b),(aa "sub", .tuple [.int (aL a), .int (aL c)])]),(aa "base", .str b),(aa "sub", .tuple [.int (aL a), .int (aL c)])]) _
      (apply eM;(focus ((repeat' first|tb_rel|exact iH);done));(focus (rfl;done)))
      (apply mr;(focus (apply iC;kernel_rfl;(focus ((repeat' first|tb_rel);done));lcg_sub;lcg_sub)))
      (apply eM;(focus ((repeat' first|tb_rel|exact jd);done));(focus (simp;omega;done)))
      (apply eM;(focus ((repeat' first|tb_rel|exact k8|exact n5);done));(focus (simp[q2];done)))
      (apply gw;(focus ((repeat' first|tb_rel|exact jd);done));(focus (simp;omega;done)))
      exact j3
     ·rw[show ia (.two a c)=false by simp[ia,q3]]
      show eX (aw _ _ [(aa "self", .inst .bas [(aa "arrlist",bM ds),(aa "base", .str b),(aa "sub", .tuple [.int (aL a), .int (aL c)])]),(aa "base", .str b),(aa "sub", .tuple [.int (aL a), .int (aL c)])]) _
      (apply eM;(focus ((repeat' first|tb_rel|exact iH);done));(focus (rfl;done)))
      (apply mr;(focus (apply iC;kernel_rfl;(focus ((repeat' first|tb_rel);done));lcg_sub;lcg_sub)))
      (apply eM;(focus ((repeat' first|tb_rel|exact jd);done));(focus (simp;omega;done)))
      (apply eM;(focus ((repeat' first|tb_rel|exact k8|exact n5);done));(focus (simp[q2];done)))
      (apply fG;(focus ((repeat' first|tb_rel|exact jd);done));(focus (simp;omega;done)))
      apply iK
      (apply aD;(focus (apply d5;(focus ((repeat' first|tb_rel|exact eL (by assumption) (by assumption)|exact rfl|exact hI _ _);done))));exact rfl)
    ·rw[show ia (.two a c)=false by simp[ia,q2]]
     show eX (aw _ _ [(aa "self", .inst .bas [(aa "arrlist",bM ds),(aa "base", .str b),(aa "sub", .tuple [.int (aL a), .int (aL c)])]),(aa "base", .str b),(aa "sub", .tuple [.int (aL a), .int (aL c)])]) _
     (apply eM;(focus ((repeat' first|tb_rel|exact iH);done));(focus (rfl;done)))
     (apply mr;(focus (apply iC;kernel_rfl;(focus ((repeat' first|tb_rel);done));lcg_sub;lcg_sub)))
     (apply eM;(focus ((repeat' first|tb_rel|exact jd);done));(focus (simp;omega;done)))
     (apply j4;(focus ((repeat' first|tb_rel|exact k8|exact n5);done));(focus (simp[q2];done)))
     (apply aD;(focus (apply d5;(focus ((repeat' first|tb_rel|exact eL (by assumption) (by assumption)|exact rfl|exact hI _ _);done))));exact rfl)
   ·rw[show ia (.two a c)=false by
     show(decide (8<=aL a)&&decide (aL a<=256)&&(aL a%8==0)&&decide (aL c<=80))=false
     rw[lu];left;rw[lu];left;rw[lu,decide_eq_false_iff_not,decide_eq_false_iff_not];omega]
    show eX (aw _ _ [(aa "self", .inst .bas [(aa "arrlist",bM ds),(aa "base", .str b),(aa "sub", .tuple [.int (aL a), .int (aL c)])]),(aa "base", .str b),(aa "sub", .tuple [.int (aL a), .int (aL c)])]) _
    (apply eM;(focus ((repeat' first|tb_rel|exact iH);done));(focus (rfl;done)))
    (apply mr;(focus (apply iC;kernel_rfl;(focus ((repeat' first|tb_rel);done));lcg_sub;lcg_sub)))
    (apply j4;(focus ((repeat' first|tb_rel|exact jd);done));(focus (simp;omega;done)))
    (apply aD;(focus (apply d5;(focus ((repeat' first|tb_rel|exact eL (by assumption) (by assumption)|exact rfl|exact hI _ _);done))));exact rfl)
 have h4':(nm "fixed" ==b||nm "ufixed" ==b)=false:=by
  rw[ki,beq_eq_false_iff_ne,beq_eq_false_iff_ne]
  exact⟨λq=>h4 (.inl q.symm),λq=>h4 (.inr q.symm)⟩
 (apply gw;(focus ((repeat' first|tb_rel|exact qR hb (by decide+kernel) (by decide+kernel));done));(focus (exact h4';done)))
 by_cases h5:b=nm "hash"
 ·rw[show cu b s=u8 s by unfold cu;rw[if_neg h1,if_neg h2,if_neg h3,if_neg h4,if_pos h5]]
  (apply fG;(focus ((repeat' first|tb_rel|exact bi);done));(focus (exact beq_iff_eq.mpr h5;done)))
  cases s with
  |none=>
   (apply fG;(focus ((repeat' first|tb_rel|exact ml);done));(focus (rfl;done)))
   apply iK
   (apply aD;(focus (apply d5;(focus ((repeat' first|tb_rel|exact eL (by assumption) (by assumption)|exact rfl|exact hI _ _);done))));exact rfl)
  |one a=>
   (apply gw;(focus ((repeat' first|tb_rel|exact hY);done));(focus (rfl;done)))
   exact j3
  |two a c=>
   (apply fG;(focus ((repeat' first|tb_rel|exact mn);done));(focus (rfl;done)))
   apply iK
   (apply aD;(focus (apply d5;(focus ((repeat' first|tb_rel|exact eL (by assumption) (by assumption)|exact rfl|exact hI _ _);done))));exact rfl)
 (apply gw;(focus ((repeat' first|tb_rel|exact bi);done));(focus (exact beq_eq_false_iff_ne.mpr h5;done)))
 by_cases h6:b=nm "address"
 ·rw[show cu b s=iJ s by unfold cu;rw[if_neg h1,if_neg h2,if_neg h3,if_neg h4,if_neg h5,if_pos h6]]
  (apply fG;(focus ((repeat' first|tb_rel|exact bi);done));(focus (exact beq_iff_eq.mpr h6;done)))
  cases s with
  |none=>
   (apply gw;(focus ((repeat' first|tb_rel|exact iE);done));(focus (rfl;done)))
   exact j3
  |one a=>
   (apply fG;(focus ((repeat' first|tb_rel|exact iE);done));(focus (rfl;done)))
   apply iK
   (apply aD;(focus (apply d5;(focus ((repeat' first|tb_rel|exact eL (by assumption) (by assumption)|exact rfl|exact hI _ _);done))));exact rfl)
  |two a c=>
   (apply fG;(focus ((repeat' first|tb_rel|exact iE);done));(focus (rfl;done)))
   apply iK
   (apply aD;(focus (apply d5;(focus ((repeat' first|tb_rel|exact eL (by assumption) (by assumption)|exact rfl|exact hI _ _);done))));exact rfl)
 ·rw[show cu b s=true by unfold cu;rw[if_neg h1,if_neg h2,if_neg h3,if_neg h4,if_neg h5,if_neg h6]]
  (apply gw;(focus ((repeat' first|tb_rel|exact bi);done));(focus (exact beq_eq_false_iff_ne.mpr h6;done)))
  exact j3
end
end
section
noncomputable def fH:Ty->Ty
 | .bas b s ds=> .bas b s ds.dropLast
 | .tup cs ds=> .tup cs ds.dropLast
noncomputable def vf:aC->List aC
 | .For _ _ b _ _=>b
 |_=>[]
noncomputable def NJ:bg->Bool
 | .one _=>true
 |_=>false
noncomputable def NK:bg->Bool
 | .two .. =>true
 |_=>false
section
variable{C:Calls}
noncomputable abbrev j5(b:List Nat)(s:bg)(ds:List aF):PV:= .inst .bas [(aa "arrlist",bM ds),(aa "base", .str b),(aa "sub",cC s)]
noncomputable abbrev tupI(cs:List Ty)(ds:List aF):PV:= .inst .tup [(aa "arrlist",bM ds),(aa "components", .tuple (cs.map aH))]
theorem ms(cs:List Ty)(ds:List aF):aH (.tup cs ds)=tupI cs ds:=by
 show PV.inst .tup [(aa "arrlist",bM ds),(aa "components", .tuple (hO cs))]=_
 rw[uV]
theorem qS{s:bg}:bn C .Is (cC s) .none= .ok (iJ s):=by cases s<;>rfl
theorem Cd{s:bg}:dK (cC s) (aa "int")=some (NJ s):=by cases s<;>kernel_rfl
theorem QZ{s:bg}:dK (cC s) (aa "tuple")=some (NK s):=by cases s<;>kernel_rfl
theorem NL{b:List Nat}{s:bg}{ds:List aF}(hH:C.prop .bas (aa "_has_dynamic_arrlist") (j5 b s ds)= .ok (.bool (ew ds))):aN C false (am (ag 14) 3) [j5 b s ds]= .ok (.bool (cS (.bas b s ds))):=by
 have e:cS (.bas b s ds)=(ew ds||(b==nm "string")||(b==nm "bytes" &&iJ s)):=by simp only[cS]
 refine dm (names:=[aa "self"]) (by kernel_rfl) rfl ?_
 show aw _ _ [(aa "self",j5 b s ds)]=_
 (conv=>lhs;arg 2;whnf)
 cases h:ew ds with
 |true=>
  rw[h]at e hH
  (apply ch;(focus ((repeat' first|tb_rel|exact hH);done));(focus (rfl;done));(focus (exact rfl)))
  (refine aD ?_ rfl;apply a6;(focus ((repeat' first|tb_rel);done)))
  rw[e];rfl
 |false=>
  rw[h]at e hH
  (apply br;(focus ((repeat' first|tb_rel|exact hH);done));(focus (rfl;done));(focus (exact aR)))
  by_cases h1:b=nm "string"
  ·(apply ch;(focus ((repeat' first|tb_rel|exact bi|tb_start);done));(focus (exact beq_iff_eq.mpr h1;done));(focus (exact rfl)))
   (refine aD ?_ rfl;apply a6;(focus ((repeat' first|tb_rel);done)))
   rw[e,h1,beq_self_eq_true];rfl
  ·(apply br;(focus ((repeat' first|tb_rel|exact bi|tb_start);done));(focus (exact beq_eq_false_iff_ne.mpr h1;done));(focus (exact aR)))
   have h1':=beq_eq_false_iff_ne.mpr h1
   by_cases h2:(b==nm "bytes" &&iJ s)=true
   ·(apply ch;(focus ((repeat' first|tb_rel|exact bi|tb_start|exact qS);done));(focus (exact h2;done));(focus (exact rfl)))
    (refine aD ?_ rfl;apply a6;(focus ((repeat' first|tb_rel);done)))
    rw[e,h1',h2];rfl
   ·rw[mE]at h2
    (apply br;(focus ((repeat' first|tb_rel|exact bi|tb_start|exact qS);done));(focus (exact h2;done));(focus (exact aR)))
    (refine aD ?_ rfl;apply a6;(focus ((repeat' first|tb_rel);done)))
    rw[e,h1',h2];rfl
theorem NM{cs:List Ty}{ds:List aF}(hc:cs.length<=90)(hH:C.prop .tup (aa "_has_dynamic_arrlist") (tupI cs ds)= .ok (.bool (ew ds))) (hC:∀T∈cs,C.prop (bD T) (aa "is_dynamic") (aH T)= .ok (.bool (cS T))):aN C true (am (ag 13) 4) [tupI cs ds]= .ok (.bool (cS (.tup cs ds))):=by
 have e:cS (.tup cs ds)=(ew ds||cs.any cS):=by simp only[cS,u7]
 refine dm (names:=[aa "self"]) (by kernel_rfl) rfl ?_
 show aw _ _ [(aa "self",tupI cs ds)]=_
 (conv=>lhs;arg 2;whnf)
 cases h:ew ds with
 |true=>
  rw[h]at e hH
  (apply ch;(focus ((repeat' first|tb_rel|exact hH);done));(focus (rfl;done));(focus (exact rfl)))
  (refine aD ?_ rfl;apply a6;(focus ((repeat' first|tb_rel);done)))
  rw[e];rfl
 |false=>
  rw[h]at e hH
  (apply br;(focus ((repeat' first|tb_rel|exact hH);done));(focus (rfl;done));(focus (exact aR)))
  (refine aD ?_ rfl;apply a6;(focus ((repeat' first|tb_rel|tb_start|(with_reducible exact hW (by rw[cm];exact lB ‹_›))|(refine gJ aH cs (λT=> .bool (cS T)) (by kernel_rfl) ?_)|(exact hC _ (by assumption))|exact BP);done)))
  rw[e,wv];rfl
theorem Ce{body:aj->aB}{x:Str}{ρ0:aj}(hx:∀v w,aP x v (ρ0++[(x,w)])=ρ0++[(x,v)]):∀(cs:List Ty) (w:PV),(∀T∈cs,body (ρ0++[(x,aH T)])=if cv T=true then .next (ρ0++[(x,aH T)])else .exc .abi (ρ0++[(x,aH T)]))->∃ρ',cX body x (cs.map aH) (ρ0++[(x,w)])=if cs.all cv=true then .next ρ' else .held .abi
 |[],w,_=>⟨_,rfl⟩
 |T::cs,w,h=>by
  have h1:=h T (.head _)
  refine xE (Ce hx cs (aH T) λU hU=>h U (.tail _ hU)) λρ' h2=> ?_
  cases e:cv T with
  |true=>
   rw[e]at h1
   refine⟨ρ',?_⟩
   rw[gV,e,CT,fe]
   exact Bk (hx _ _) h1 h2
  |false=>
   rw[e]at h1
   refine⟨[],?_⟩
   rw[gV,e,Bool.false_and,fe]
   exact Mg (hx _ _) h1
theorem NN{cs:List Ty}{ds:List aF}(hne:cs≠[])(hc:cs.length<=90)(hC:∀T∈cs,C.meth (bD T) (aa "validate") [aH T]=if cv T=true then .ok .none else .exc .abi):aN C false (am (ag 13) 3) [tupI cs ds]=if cv (.tup cs ds)=true then .ok .none else .exc .abi:=by
 have e:cv (.tup cs ds)=cs.all cv:=by simp only[cv,u9]
 have key:∃ρ',aw (pX C false 12 (cg (am (ag 13) 3))) (aS (am (ag 13) 3)) [(aa "self",tupI cs ds)]=if cs.all cv=true then .next ρ' else .held .abi:=by
  cases cs with
  |nil=>exact absurd rfl hne
  |cons T cs=>
   have hb:∀U∈T::cs,∀body,body=vf ((aS (am (ag 13) 3)).headD default)->aw (pX C false 11 (cg (am (ag 13) 3))) body ([(aa "self",tupI (T::cs) ds)]++[(aa "c",aH U)])=if cv U=true then .next ([(aa "self",tupI (T::cs) ds)]++[(aa "c",aH U)])else .exc .abi ([(aa "self",tupI (T::cs) ds)]++[(aa "c",aH U)]):=by
    intro U hU body hbd
    subst hbd
    show aw _ _ [(aa "self",tupI (T::cs) ds),(aa "c",aH U)]=_
    (conv=>lhs;arg 2;whnf)
    have hm:=hC U hU
    cases hv:cv U with
    |true=>
     rw[hv]at hm
     have hm:C.meth (bD U) (aa "validate") [aH U]= .ok .none:=hm
     apply gf
     apply Ba
     (repeat' first|tb_rel|exact hm|(cases U<;>kernel_rfl))
    |false=>
     rw[hv]at hm
     have hm:C.meth (bD U) (aa "validate") [aH U]= .exc .abi:=hm
     apply gf
     apply d5
     (repeat' first|tb_rel|exact hm|(cases U<;>kernel_rfl))
   refine xE (Ce (body:=aw (pX C false 11 (cg (am (ag 13) 3))) (vf ((aS (am (ag 13) 3)).headD default))) (x:=aa "c") (ρ0:=[(aa "self",tupI (T::cs) ds)]) (λv w=>qj (by kernel_rfl) qi) (T::cs) .none (λU hU=>hb U hU _ rfl)) λρ' hf=> ?_
   refine⟨ρ',?_⟩
   have hstep:cX (aw (pX C false 11 (cg (am (ag 13) 3))) (vf ((aS (am (ag 13) 3)).headD default))) (aa "c") ((T::cs).map aH) [(aa "self",tupI (T::cs) ds)]=if(T::cs).all cv=true then .next ρ' else .held .abi:=by
    rw[<-hf]
    show cX _ _ (aH T::cs.map aH) _=cX _ _ (aH T::cs.map aH) _
    unfold cX
    rw[show aP (aa "c") (aH T) ([(aa "self",tupI (T::cs) ds)]++[(aa "c",PV.none)])=aP (aa "c") (aH T) [(aa "self",tupI (T::cs) ds)]from(qj (by kernel_rfl) qi).trans (qj (by kernel_rfl) Mh).symm]
   (conv=>lhs;arg 2;whnf)
   apply gf
   apply Bd
   focus kernel_rfl
   focus (repeat' first|tb_rel|tb_start)
   focus (exact hW (by rw[cm];exact aV ‹_› (by rfl)))
   exact hstep
 refine xE key λρ' key=> ?_
 rw[e]
 cases h:cs.all cv with
 |true=>rw[h]at key;exact Nz (names:=[aa "self"]) (by kernel_rfl) rfl key
 |false=>rw[h]at key;exact NA (names:=[aa "self"]) (by kernel_rfl) rfl key
end
end
section
theorem vg{α:Type}{l:List α}(h:l≠[]):(!l.isEmpty)=true:=by cases l with
 |nil=>exact absurd rfl h
 |cons a r=>rfl
section
variable{C:Calls}
theorem Cf{ds:List aF}(h0:ds≠[])(h:ds.length<=900):gE (.tuple (ds.map aU)) .none (.int (-1))=some (.tuple (ds.dropLast.map aU)):=by
 have:=dn
 show(if(!(ds.map aU).isEmpty&&decide ((ds.map aU).length<=aX))=true then some (PV.tuple (ds.map aU).dropLast)else none)=_
 rw[if_pos,C7,C7,List.map_take,cm]
 rw[aI]
 refine⟨by cases ds with|nil=>exact absurd rfl h0|cons a r=>rfl,decide_eq_true (by rw[cm];exact aV ‹_› (by rfl))⟩
theorem Cg{ev:ai->aj->Res PV}{ρ:aj}{e e':ai}{ds:List aF}(hl:ds.length<=900)(h:ev e ρ= .ok (.tuple (ds.map aU)))(h':ev e' ρ= .ok .none):fk ev .Or [e,e'] ρ= .ok (bM ds):=by
 by_cases h0:ds=[]
 ·subst h0
  have h:ev e ρ= .ok (.tuple []):=h
  rw[kX rfl]
  show(ev e ρ).bind _=_
  rw[h,eF,show d4 (.tuple [])=some false from qt (xs:=[]) (by decide)]
  exact h'
 ·rw[iI h0]
  show(ev e ρ).bind _=_
  rw[h]
  show(aE (d4 (.tuple (ds.map aU)))).bind _=_
  rw[qt (by rw[cm];exact aV ‹_› (by rfl))]
  cases ds with
  |nil=>exact absurd rfl h0
  |cons a r=>rfl
theorem NO{b:List Nat}{s:bg}{ds:List aF}(hd:ds.length<=90)(hl:(sh (.bas b s ds)).length<=900)(hA:C.prop .bas (aa "is_array") (j5 b s ds)= .ok (.bool (!ds.isEmpty))) (hS:C.meth .bas (aa "to_type_str") [j5 b s ds]= .ok (.str (sh (.bas b s ds))))
  (hM:∀x y z,C.fn (aa "BasicType") [x,y,z]= .ok (.inst .bas [(aa "arrlist",z),(aa "base",x),(aa "sub",y)])):aN C false (am (ag 14) 2) [j5 b s ds]=if ds=[]then .exc .value else .ok (j5 b s ds.dropLast):=by
 by_cases h0:ds=[]
 ·rw[if_pos h0]
  rw[h0]at hA hS hl ⊢
  apply u' (names:=[aa "self"]) (by kernel_rfl) rfl
  show aw _ _ [(aa "self",j5 b s [])]=_
  (conv=>lhs;arg 2;whnf)
  (apply ch;(focus ((repeat' first|tb_rel|exact hA);done));(focus (rfl;done));(focus (exact rfl)))
  apply gf
  apply kP
  focus kernel_rfl
  focus (repeat' first|tb_rel|exact hS|(with_reducible exact jV (by omega))|(with_reducible exact jV (by decide))|exact rfl)
  focus kernel_rfl
 ·rw[if_neg h0]
  have hA':(!ds.isEmpty)=true:=vg h0
  rw[hA']at hA
  refine dm (names:=[aa "self"]) (by kernel_rfl) rfl ?_
  show aw _ _ [(aa "self", .inst .bas [(aa "arrlist",bM ds),(aa "base", .str b),(aa "sub",cC s)])]=_
  (conv=>lhs;arg 2;whnf)
  (apply br;(focus ((repeat' first|tb_rel|exact hA);done));(focus (rfl;done));(focus (exact aR)))
  have hv:bM ds= .tuple (ds.map aU):=iI h0
  rw[hv]
  (refine aD ?_ rfl;apply a6;(focus ((repeat' first|(refine Cg (ds:=ds.dropLast) (by rw[C8];omega) ?_ ?_)|exact Cf h0 (by omega)|exact hM _ _ _|tb_start|tb_rel);done)))
  rfl
theorem NP{cs:List Ty}{ds:List aF}(hd:ds.length<=90)(hl:(sh (.tup cs ds)).length<=900)(hA:C.prop .tup (aa "is_array") (tupI cs ds)= .ok (.bool (!ds.isEmpty))) (hS:C.meth .tup (aa "to_type_str") [tupI cs ds]= .ok (.str (sh (.tup cs ds))))
  (hM:∀x z,C.fn (aa "TupleType") [x,z]= .ok (.inst .tup [(aa "arrlist",z),(aa "components",x)])):aN C false (am (ag 13) 2) [tupI cs ds]=if ds=[]then .exc .value else .ok (tupI cs ds.dropLast):=by
 by_cases h0:ds=[]
 ·rw[if_pos h0]
  rw[h0]at hA hS hl ⊢
  apply u' (names:=[aa "self"]) (by kernel_rfl) rfl
  show aw _ _ [(aa "self",tupI cs [])]=_
  (conv=>lhs;arg 2;whnf)
  (apply ch;(focus ((repeat' first|tb_rel|exact hA);done));(focus (rfl;done));(focus (exact rfl)))
  apply gf
  apply kP
  focus kernel_rfl
  focus (repeat' first|tb_rel|exact hS|(with_reducible exact jV (lB ‹_›))|(with_reducible exact jV (by decide))|exact rfl)
  focus kernel_rfl
 ·rw[if_neg h0]
  have hA':(!ds.isEmpty)=true:=vg h0
  rw[hA']at hA
  refine dm (names:=[aa "self"]) (by kernel_rfl) rfl ?_
  show aw _ _ [(aa "self", .inst .tup [(aa "arrlist",bM ds),(aa "components", .tuple (cs.map aH))])]=_
  (conv=>lhs;arg 2;whnf)
  (apply br;(focus ((repeat' first|tb_rel|exact hA);done));(focus (rfl;done));(focus (exact aR)))
  have hv:bM ds= .tuple (ds.map aU):=iI h0
  rw[hv]
  (refine aD ?_ rfl;apply a6;(focus ((repeat' first|(refine Cg (ds:=ds.dropLast) (by rw[C8];omega) ?_ ?_)|exact Cf h0 (aV ‹_› (by rfl))|exact hM _ _|tb_start|tb_rel);done)))
  rfl
theorem NQ{r:Res PV}{ρ:aj}{a:PV}(h:r= .ok a):aW r ρ (λv=> .ret v)= .ret a:=by rw[h];rfl
theorem NR{T U:Ty}(h1:C.meth (bD T) (aa "to_type_str") [aH T]= .ok (.str (sh T))) (h2:C.meth (bD U) (aa "to_type_str") [aH U]= .ok (.str (sh U))) (hd:bD T≠bD U->sh T≠sh U):i5 C [aH T,aH U]= .ok (.bool (sh T==sh U)):=by
 have hr:aw (ny (pE C false 24) (cg jJ)) (aS jJ) [(aa "self",aH T),(aa "other",aH U)]= .ret (.bool (sh T==sh U)):=by
  have l1:List.lookup (aa "self") ([(aa "self",aH T),(aa "other",aH U)]:aj)=some (aH T):=by tb_start
  have l2:List.lookup (aa "other") ([(aa "self",aH T),(aa "other",aH U)]:aj)=some (aH U):=by tb_start
  rw[show aS jJ=[nv] by kernel_rfl]
  refine aD ?_ rfl
  unfold ny
  rw[if_pos ⟨rfl,by kernel_rfl⟩,l1,l2]
  show(if bD T=bD U then aW ((pE C false 24).ev (cg jJ) lQ [(aa "self",aH T),(aa "other",aH U)]) _ λv=> .ret v else .ret (.bool false))=aB.ret _
  by_cases hc:bD T=bD U
  ·rw[if_pos hc]
   refine NQ ?_
   (conv=>lhs;arg 3;whnf)
   (repeat' first|tb_rel|exact h1|exact h2|exact uX _|exact bi)
  ·rw[if_neg hc,beq_eq_false_iff_ne.mpr (hd hc)]
 unfold i5
 rw[if_pos (by kernel_rfl)]
 show pL (jG (aw _ _ [(aa "self",aH T),(aa "other",aH U)]))=_
 rw[hr];rfl
end
end
section
theorem vh{α β:Type}(m:α->β)(f:α->Bool):∀l:List α,(!((l.filter f).map m).isEmpty)=l.any f
 |[]=>rfl
 |a::r=>by
  rw[rt,vX]
  cases f a with
  |true=>rfl
  |false=>exact vh m f r
theorem NS{α β:Type}(m:α->β)(f:α->Bool)(l:List α):((l.filter λa=> !f a).map m).isEmpty=l.all f:=by
 have:=vh m (λa=> !f a) l
 rw[List.all_eq_not_any_not,<-this,Bool.not_not]
section
variable{C:Calls}
noncomputable abbrev n9(b:List Nat)(s:bg)(ds:List aF):PV:= .list [.list [.str (nm "name"), .str b,cC s], .list (ds.map aU)]
noncomputable abbrev oa(cs:List Ty)(ds:List aF):PV:= .list [.list [.str (nm "tuple"), .list (cs.map λT=> .str (sh T))], .list (ds.map aU)]
theorem Ch(b:List Nat)(s:bg)(ds:List aF):d8 (some (dp (.bas b s ds)))=n9 b s ds:=rfl
theorem vj(cs:List Ty)(ds:List aF):d8 (some (dp (.tup cs ds)))=oa cs ds:=by
 show PV.list [.list [.str (nm "tuple"), .list ((cs.map sh).map .str)], .list (ds.map aU)]=_
 rw[oS];rfl
theorem NT(d:aF):(aU d).flat 4=true:=by cases d<;>rfl
theorem NU(ds:List aF):(ds.map aU).all (PV.flat 4)=true:=by
 rw[ba]
 intro v hv
 refine ay (ij.mp hv) λd ø zq2=> ?_;subst zq2
 exact NT d
theorem qU{ds:List aF}:bn C .In (.tuple []) (.list (ds.map aU))= .ok (ew ds):=by
 show aE (if((PV.tuple []).flat 4&&(ds.map aU).all (PV.flat 4))=true then some ((ds.map aU).any λy=>y.same (.tuple []))else none)=_
 rw[NU,if_pos (by rfl),wv]
 show Res.ok _=_
 unfold ew
 congr 1
 congr 1
 funext d
 cases d<;>rfl
theorem NV{xs:List PV}:bn C .Eq (.list xs) (.list [])= .ok xs.isEmpty:=rfl
theorem vk:(nm "tuple" ==nm "tuple")=true:=by decide+kernel
theorem vm:(nm "name" ==nm "tuple")=false:=by decide+kernel
theorem NW{b:List Nat}{s:bg}{ds:List aF}:aN C false (ag 25) [n9 b s ds]= .ok (.bool (cS (.bas b s ds))):=by
 have e:cS (.bas b s ds)=(ew ds||((b==nm "string")||(b==nm "bytes" &&iJ s))):=by simp only[cS,Bool.or_assoc]
 refine dm (names:=[aa "found"]) (by kernel_rfl) rfl ?_
 show aw _ _ [(aa "found",n9 b s ds)]=_
 (conv=>lhs;arg 2;whnf)
 cases h:ew ds with
 |true=>
  rw[h]at e
  (apply ch;(focus ((repeat' first|tb_rel|exact gL|exact qU);done));(focus (exact h;done));(focus (exact rfl)))
  (refine aD ?_ rfl;apply a6;(focus ((repeat' first|tb_rel);done)))
  rw[e];rfl
 |false=>
  rw[h]at e
  (apply br;(focus ((repeat' first|tb_rel|exact gL|exact qU);done));(focus (exact h;done));(focus (exact aR)))
  (apply br;(focus ((repeat' first|tb_rel|exact ge|exact bi);done));(focus (exact vm;done));(focus (exact aR)))
  (refine aD ?_ rfl;apply a6;(focus ((repeat' first|tb_rel|exact ge|exact gL|exact uK|exact bi|exact qS);done)))
  rw[e];rfl
theorem NX{cs:List Ty}{ds:List aF}(hc:cs.length<=90)(hR:∀T∈cs,C.fn (aa "_law_read") [.str (sh T)]= .ok (d8 (some (dp T)))) (hV:∀T∈cs,C.fn (aa "_law_varies") [d8 (some (dp T))]= .ok (.bool (cS T))):aN C false (ag 25) [oa cs ds]= .ok (.bool (cS (.tup cs ds))):=by
 have e:cS (.tup cs ds)=(ew ds||cs.any cS):=by simp only[cS,u7]
 refine dm (names:=[aa "found"]) (by kernel_rfl) rfl ?_
 show aw _ _ [(aa "found",oa cs ds)]=_
 (conv=>lhs;arg 2;whnf)
 cases h:ew ds with
 |true=>
  rw[h]at e
  (apply ch;(focus ((repeat' first|tb_rel|exact gL|exact qU);done));(focus (exact h;done));(focus (exact rfl)))
  (refine aD ?_ rfl;apply a6;(focus ((repeat' first|tb_rel);done)))
  rw[e];rfl
 |false=>
  rw[h]at e
  (apply br;(focus ((repeat' first|tb_rel|exact gL|exact qU);done));(focus (exact h;done));(focus (exact aR)))
  (apply ch;(focus ((repeat' first|tb_rel|exact ge|exact bi);done));(focus (exact vk;done));(focus (exact rfl)))
  (refine aD ?_ rfl;apply a6;(focus ((repeat' first|tb_rel|(apply i9;kernel_rfl)|exact ge|exact gL|exact nT (by rw[cm];lia)|(refine mi (λT=> .str (sh T)) cs cS (by kernel_rfl) ?_ ?_)|exact hR _ (by assumption)|exact hV _ (by assumption)|exact Bm|exact nU);done)))
  rw[e,vh];rfl
theorem NY{cs:List Ty}{ds:List aF}(hc:cs.length<=90)(hR:∀T∈cs,C.fn (aa "_law_read") [.str (sh T)]= .ok (d8 (some (dp T)))) (hV:∀T∈cs,C.fn (aa "_law_valid") [d8 (some (dp T))]= .ok (.bool (cv T))):aN C false (ag 26) [oa cs ds]= .ok (.bool (cv (.tup cs ds))):=by
 have e:cv (.tup cs ds)=cs.all cv:=by simp only[cv,u9]
 refine dm (names:=[aa "found"]) (by kernel_rfl) rfl ?_
 show aw _ _ [(aa "found",oa cs ds)]=_
 (conv=>lhs;arg 2;whnf)
 (apply ch;(focus ((repeat' first|tb_rel|exact ge|exact bi);done));(focus (exact vk;done));(focus (exact rfl)))
 (refine aD ?_ rfl;apply a6;(focus ((repeat' first|tb_rel|(apply i9;kernel_rfl)|exact ge|exact gL|exact nT (by rw[cm];lia)|(refine mi (λT=> .str (sh T)) cs (λT=> !cv T) (by kernel_rfl) ?_ ?_)|exact hR _ (by assumption)|exact hV _ (by assumption)|exact Bm|exact NV);done)))
 rw[e,NS]
theorem NZ{b:List Nat}{s:bg}{ds:List aF}(hs:dY s=true):aN C false (ag 26) [n9 b s ds]= .ok (.bool (cu b s)):=by
 refine dm (names:=[aa "found"]) (by kernel_rfl) rfl ?_
 show aw _ _ [(aa "found",n9 b s ds)]=_
 (conv=>lhs;arg 2;whnf)
 (apply br;(focus ((repeat' first|tb_rel|exact ge|exact bi);done));(focus (exact vm;done));(focus (exact aR)))
 (apply aO;(focus (apply iC;kernel_rfl;(focus ((repeat' first|tb_rel|exact ge|exact gL|exact uK);done));lcg_sub;lcg_sub)))
 by_cases h1:b=nm "string" \/b=nm "address"
 ·have h1':(b==nm "string" ||b==nm "address")=true:=by rw[gS,beq_iff_eq,beq_iff_eq];exact h1
  have e:cu b s=iJ s:=by
   rcases h1 with rfl|rfl
   ·unfold cu;rw[if_pos rfl]
   ·unfold cu;rw[if_neg (by decide+kernel),if_neg (by decide+kernel),if_neg (by decide+kernel),if_neg (by decide+kernel),if_neg (by decide+kernel),if_pos rfl]
  (apply ch;(focus ((repeat' first|tb_rel|exact bi);done));(focus (exact h1';done));(focus (exact rfl)))
  (refine aD ?_ rfl;apply a6;(focus ((repeat' first|tb_rel|exact qS);done)))
  rw[e]
 have h1':(b==nm "string" ||b==nm "address")=false:=by rw[ki,beq_eq_false_iff_ne,beq_eq_false_iff_ne];exact not_or.mp h1
 obtain⟨n1,n6⟩:=not_or.mp h1
 (apply br;(focus ((repeat' first|tb_rel|exact bi);done));(focus (exact h1';done));(focus (exact aR)))
 by_cases h2:b=nm "bytes"
 ·have e:cu b s=nZ s:=by unfold cu;rw[if_neg n1,if_pos h2]
  (apply ch;(focus ((repeat' first|tb_rel|exact bi);done));(focus (exact beq_iff_eq.mpr h2;done));(focus (exact rfl)))
  rw[e]
  cases s with
  |none=>
   refine aD (jO (ja (v:= .bool (true||false)) (jM (A4 ?_ λq=>nomatch q)) rfl)) rfl
   (repeat' first|tb_rel|exact cR)
  |one a=>
   (refine aD ?_ rfl;apply a6;(focus ((repeat' first|tb_rel|exact cR|exact hY|exact vd);done)))
   rfl
  |two a c=>
   refine aD (jO (ja (v:= .bool (false||(false&&false))) (jM (A4 ?_ λq=>L5 (jM (l7 ?_ λq=>nomatch q)))) rfl)) rfl
   ·(repeat' first|tb_rel|exact cR)
   ·(repeat' first|tb_rel|exact mn)
 (apply br;(focus ((repeat' first|tb_rel|exact bi);done));(focus (exact beq_eq_false_iff_ne.mpr h2;done));(focus (exact aR)))
 by_cases h3:b=nm "int" \/b=nm "uint"
 ·have h3':(b==nm "int" ||b==nm "uint")=true:=by rw[gS,beq_iff_eq,beq_iff_eq];exact h3
  have e:cu b s=j0 s:=by unfold cu;rw[if_neg n1,if_neg h2,if_pos h3]
  (apply ch;(focus ((repeat' first|tb_rel|exact bi);done));(focus (exact h3';done));(focus (exact rfl)))
  rw[e]
  cases s with
  |none=>
   refine aD (jO (ja (v:= .bool (false&&false)) (jM (l7 ?_ λq=>nomatch q)) rfl)) rfl
   (repeat' first|tb_rel|exact ml)
  |one a=>
   (refine aD ?_ rfl;apply a6;(focus ((repeat' first|tb_rel|exact hY|exact vd|exact k8|exact ve);done)))
   rfl
  |two a c=>
   refine aD (jO (ja (v:= .bool (false&&false)) (jM (l7 ?_ λq=>nomatch q)) rfl)) rfl
   (repeat' first|tb_rel|exact mn)
 have h3':(b==nm "int" ||b==nm "uint")=false:=by rw[ki,beq_eq_false_iff_ne,beq_eq_false_iff_ne];exact not_or.mp h3
 (apply br;(focus ((repeat' first|tb_rel|exact bi);done));(focus (exact h3';done));(focus (exact aR)))
 by_cases h4:b=nm "fixed" \/b=nm "ufixed"
 ·have h4':(b==nm "fixed" ||b==nm "ufixed")=true:=by rw[gS,beq_iff_eq,beq_iff_eq];exact h4
  have e:cu b s=ia s:=by unfold cu;rw[if_neg n1,if_neg h2,if_neg h3,if_pos h4]
  (apply ch;(focus ((repeat' first|tb_rel|exact bi);done));(focus (exact h4';done));(focus (exact rfl)))
  rw[e]
  cases s with
  |none=>
   refine aD (jO (ja (v:= .bool (false&&false)) (jM (l7 ?_ λq=>nomatch q)) rfl)) rfl
   (repeat' first|tb_rel|exact kW)
  |one a=>
   refine aD (jO (ja (v:= .bool (false&&false)) (jM (l7 ?_ λq=>nomatch q)) rfl)) rfl
   (repeat' first|tb_rel|exact BN)
  |two a c=>
   (refine aD ?_ rfl;apply a6;(focus ((repeat' first|tb_rel|exact iH|exact nO|exact gu|exact vd|exact k8|exact ve);done)))
   congr 1
   simp[ia,Bool.and_assoc]
 have h4':(b==nm "fixed" ||b==nm "ufixed")=false:=by rw[ki,beq_eq_false_iff_ne,beq_eq_false_iff_ne];exact not_or.mp h4
 (apply br;(focus ((repeat' first|tb_rel|exact bi);done));(focus (exact h4';done));(focus (exact aR)))
 by_cases h5:b=nm "hash"
 ·have e:cu b s=u8 s:=by unfold cu;rw[if_neg n1,if_neg h2,if_neg h3,if_neg h4,if_pos h5]
  (refine aD ?_ rfl;apply a6;(focus ((repeat' first|tb_rel|exact fD|exact Cd);done)))
  rw[e,h5]
  rw[show(nm "hash" !=an (aa "hash"))=false by decide+kernel]
  cases s<;>rfl
 ·have e:cu b s=true:=by unfold cu;rw[if_neg n1,if_neg h2,if_neg h3,if_neg h4,if_neg h5,if_neg n6]
  (refine aD ?_ rfl;apply a6;(focus ((repeat' first|tb_rel|exact fD|exact Cd);done)))
  rw[e,show(b !=an (aa "hash"))=true from bne_iff_ne.mpr h5];rfl
end
end
section
noncomputable def k9(x:List Nat):PV:=match cZ x with
 |some T=>aH T
 |none=> .str (if ce [40,41] x=true then nm "empty" else nm "text")
noncomputable def mu(x:List Nat):Res PV:=match cZ x with
 |some T=> .ok (aH T)
 |none=>if ce [40,41] x=true then .exc .value else .exc .parse
section
variable{C:Calls}
theorem N9{x:List Nat}(hP:C.fn (aa "parse") [.str x]=mu x):aN C false (ag 27) [.str x]= .ok (k9 x):=by
 refine dm (names:=[aa "text"]) (by kernel_rfl) rfl ?_
 show aw _ _ [(aa "text", .str x)]=_
 (conv=>lhs;arg 2;whnf)
 unfold k9
 unfold mu at hP
 apply gf
 cases e:cZ x with
 |some T=>
  rw[e]at hP
  have hP:C.fn (aa "parse") [.str x]= .ok (aH T):=hP
  apply Mb
  (refine aD ?_ rfl;apply a6;(focus ((repeat' first|tb_rel|exact hP);done)))
  rfl
 |none=>
  rw[e]at hP
  by_cases h:ce [40,41] x=true
  ·have hP:C.fn (aa "parse") [.str x]= .exc .value:=by rw[hP];exact if_pos h
   refine qg (c:= .value) (ρ':=[(aa "text", .str x)]) ?_ ?_
   ·apply gf
    apply Be
    (repeat' first|tb_rel|exact hP)
   ·skip
    rw[if_pos h]
    kernel_rfl
  ·have hP:C.fn (aa "parse") [.str x]= .exc .parse:=by rw[hP];exact if_neg h
   refine qg (c:= .parse) (ρ':=[(aa "text", .str x)]) ?_ ?_
   ·apply gf
    apply Be
    (repeat' first|tb_rel|exact hP)
   ·skip
    rw[if_neg h]
    kernel_rfl
theorem Oa{x:List Nat}(hn:cZ x=none)(hR:C.fn (aa "_law_read") [.str x]= .ok .none) (hT:C.fn (aa "_law_told") [.str x]= .ok (k9 x)):aN C false (ag 28) [.str x]= .ok (.bool true):=by
 have ht:k9 x= .str (if ce [40,41] x=true then nm "empty" else nm "text"):=by unfold k9;rw[hn]
 rw[ht]at hT
 refine dm (names:=[aa "text"]) (by kernel_rfl) rfl ?_
 show aw _ _ [(aa "text", .str x)]=_
 (conv=>lhs;arg 2;whnf)
 (apply aO;(focus (apply bf;kernel_rfl;(focus ((repeat' first|tb_rel|exact hR);done));lcg_sub)))
 (apply aO;(focus (apply bf;kernel_rfl;(focus ((repeat' first|tb_rel|exact hT);done));lcg_sub)))
 (apply ch;(focus ((repeat' first|tb_rel|exact cR|exact Bu);done));(focus (rfl;done));(focus (exact rfl)))
 by_cases h:ce [40,41] x=true
 ·rw[if_pos h]
  (refine aD ?_ rfl;apply a6;(focus ((repeat' first|tb_rel|exact cR|exact bi|exact jS|(apply kR)|exact h);done)))
  rw[show(nm "empty" ==an (aa "empty"))=true by decide+kernel];rfl
 ·rw[if_neg h]
  rw[mE]at h
  (refine aD ?_ rfl;apply a6;(focus ((repeat' first|tb_rel|exact cR|exact bi|exact jS|(apply kS)|exact h);done)))
  rw[show(nm "text" ==an (aa "text"))=true by decide+kernel];rfl
end
end
section
noncomputable def ib:Ty->Ty
 | .bas b s ds=> .bas b s (ds++[some [51]])
 | .tup cs ds=> .tup cs (ds++[some [51]])
noncomputable def oh:Ty->PV
 | .bas b s _=> .list [.str (nm "name"), .str b,cC s]
 | .tup cs _=> .list [.str (nm "tuple"), .list (cs.map λT=> .str (sh T))]
theorem Ob(T:Ty):d8 (some (dp T))= .list [oh T, .list ((bt T).map aU)]:=by
 cases T with
 |bas b s ds=>rfl
 |tup cs ds=>exact vj cs ds
theorem Ci{s w:List Nat}{c:Nat}(hc:c∈w):∀{ws:List (List Nat)},w∈ws->c∈aG s ws
 |[],h=>nomatch h
 |[x],h=>by rw[du]at h;subst h;exact hc
 |x::y::r,h=>by
  rw[jX (by simp)]
  rcases bR.mp h with rfl|h
  ·exact wx _ (wx _ hc)
  ·exact Pt _ (Ci hc h)
theorem Oc{cs:List Ty}{ds:List aF}{U:Ty}{c:Nat}(hU:U∈cs)(hc:c∈sh U):c∈sh (.tup cs ds):=by
 rw[gP]
 exact wx _ (wx _ (Pt _ (Ci hc (lp hU))))
noncomputable def ic:aF->List (List Nat)
 |none=>[]
 |some d=>[d]
theorem Od(d:aF):jc d=(ic d).map λa=> .int (aL a):=by cases d<;>rfl
theorem Oe(d:aF):[91]++aG [] (ic d)++[93]=b9 d:=by cases d<;>simp[ic,aG,b9]
structure Cj(C:Calls)(T:Ty):Prop where
 rd:C.fn (aa "_law_read") [.str (sh T)]= .ok (d8 (some (dp T)))
 told:C.fn (aa "_law_told") [.str (sh T)]= .ok (aH T)
 str:C.meth (bD T) (aa "to_type_str") [aH T]= .ok (.str (sh T))
 arr:C.prop (bD T) (aa "is_array") (aH T)= .ok (.bool (!(bt T).isEmpty))
 dyn:C.prop (bD T) (aa "is_dynamic") (aH T)= .ok (.bool (cS T))
 lv:C.fn (aa "_law_varies") [d8 (some (dp T))]= .ok (.bool (cS T))
 ps:C.fn (aa "parse") [.str (sh T)]= .ok (aH T)
 ps3:C.fn (aa "parse") [.str (sh T++nm "[3]")]= .ok (aH (ib T))
 eq1:C.meth (bD T) (aa "__eq__") [aH T,aH T]= .ok (.bool true)
 eq3:C.meth (bD T) (aa "__eq__") [aH T,aH (ib T)]= .ok (.bool false)
 val:C.meth (bD T) (aa "validate") [aH T]=if cv T=true then .ok .none else .exc .abi
 lval:C.fn (aa "_law_valid") [d8 (some (dp T))]= .ok (.bool (cv T))
 item:C.prop (bD T) (aa "item_type") (aH T)=if bt T=[]then .exc .value else .ok (aH (fH T))
 istr:bt T≠[]->C.meth (bD (fH T)) (aa "to_type_str") [aH (fH T)]= .ok (.str (sh (fH T)))
 part:∀cs ds,T= .tup cs ds->∀U∈cs,C.meth (bD U) (aa "to_type_str") [aH U]= .ok (.str (sh U))
 wfD:(bt T).all da=true
 len:(sh T).length<=80
 dlen:(bt T).length<=80/\ ∀d∈bt T,(b9 d).length<=80
 clen:∀cs ds,T= .tup cs ds->cs.length<=80
 sign:∀c∈sh T,c<1114112
section
variable{C:Calls}
theorem Of{xs:List PV}(h:xs.length<=1000):cW (aa "tuple") [.list xs]=some (.tuple xs):=by
 have:=dn
 rw[KT]
 exact if_pos (aV ‹_› (by rfl))
theorem Ck{xs:List PV}:bn C .NotEq (.tuple xs) (.tuple [])= .ok (!xs.isEmpty):=rfl
theorem qV{a b:Bool}:bn C .NotEq (.bool a) (.bool b)= .ok (a !=b):=rfl
theorem Og(d:aF):(aU d).flat 3=true:=by cases d<;>rfl
theorem Oh{ds:List aF}:bn C .NotEq (bM ds) (bM ds)= .ok false:=by
 by_cases h0:ds=[]
 ·rw[kX h0]
  show aE (if(true&&true)=true then some (!PV.none.same PV.none)else none)=_
  rfl
 ·rw[iI h0]
  have hf:(PV.tuple (ds.map aU)).flat 4=true:=by
   show(ds.map aU).all (PV.flat 3)=true
   rw[ba]
   intro v hv
   refine ay (ij.mp hv) λd ø zq2=> ?_;subst zq2
   exact Og d
  have hs:=tc hf
  have:bn C .NotEq (PV.tuple (ds.map aU)) (PV.tuple (ds.map aU))=aE ((if(PV.flat 4 (.tuple (ds.map aU))&&PV.flat 4 (.tuple (ds.map aU)))=true then some ((PV.tuple (ds.map aU)).same (.tuple (ds.map aU)))else none).map (!·)):=by
   cases ds with
   |nil=>exact absurd rfl h0
   |cons a r=>rfl
  rw[this,hf,hs];rfl
theorem Oi{ws:List (List Nat)}(h:∀w∈ws,∀c∈w,c<1114112):bn C .NotEq (.list (ws.map .str)) (.list (ws.map .str))= .ok false:=by
 cases ws with
 |nil=>rfl
 |cons w r=>
  have hf:(PV.list ((w::r).map .str)).flat 4=true:=by
   show((w::r).map PV.str).all (PV.flat 3)=true
   rw[ba]
   intro v hv
   refine ay (ij.mp hv) λd hd zq2=> ?_;subst zq2
   exact ba.mpr λc hc=>decide_eq_true (h d hd c hc)
  have hs:=tc hf
  have:bn C .NotEq (PV.list ((w::r).map .str)) (PV.list ((w::r).map .str))=aE ((if(PV.flat 4 (.list ((w::r).map .str))&&PV.flat 4 (.list ((w::r).map .str)))=true then some ((PV.list ((w::r).map .str)).same (.list ((w::r).map .str)))else none).map (!·)):=rfl
  rw[this,hf,hs];rfl
theorem Oj{s:bg}:bn C .NotEq (cC s) (cC s)= .ok false:=by
 have hf:(cC s).flat 4=true:=by cases s<;>rfl
 have hs:=tc hf
 have:bn C .NotEq (cC s) (cC s)=aE ((if((cC s).flat 4&&(cC s).flat 4)=true then some ((cC s).same (cC s))else none).map (!·)):=by cases s<;>rfl
 rw[this,hf,hs];rfl
theorem vn{T U:Ty}{b:Bool}(h:C.meth (bD T) (aa "__eq__") [aH T,aH U]= .ok (.bool b)):bn C .Eq (aH T) (aH U)= .ok b:=by
 show(C.meth (bD T) (aa "__eq__") [aH T,aH U]).bind _=_
 rw[h];rfl
theorem Ol{ds:List aF}{d:aF}(h:ds.getLast? =some d):fi (.tuple (ds.map aU)) (.int (-1))=some (aU d):=by
 show iR (ds.map aU) (-1)=_
 unfold iR
 rw[if_neg (by omega),if_pos rfl,List.getLast?_map,h];rfl
theorem Om(T:Ty):(gv T).lookup (aa "arrlist")=some (bM (bt T)):=by cases T<;>exact l9
theorem On(T:Ty):dK (aH T) (aa "str")=some false:=by cases T<;>kernel_rfl
theorem vp(T:Ty):((gv T).lookup (aa "to_type_str")).isNone=true:=by cases T<;>kernel_rfl
theorem Cn(T:Ty):((gv T).lookup (aa "validate")).isNone=true:=by cases T<;>kernel_rfl
theorem Oo{b:Bool}{ds:List aF}{n:Nat}{g:Bool}{sc:Scope}{ρ:aj}{t e o:ai}{p:ax}(ht:(pE C g n).tst sc t ρ= .ok b)(hb:b= !ds.isEmpty)(h1:(pE C g n).ev sc e ρ= .ok (.tuple (ds.map aU)))(h2:(pE C g n).ev sc o ρ= .ok .none):(pE C g (n+1)).ev sc (.IfExp t e o p) ρ= .ok (bM ds):=by
 by_cases h0:ds=[]
 ·rw[kX h0]
  exact kS ht (by rw[hb,h0];rfl) h2
 ·rw[iI h0]
  exact kR ht (by rw[hb];exact vg h0) h1
theorem Op{o:ai}{m:Str}{ap q:ax}{n:Nat}{g:Bool}{sc:Scope}{ρ:aj}{args:List ai}{c:XC}(hg:(fo o&&ap.endLine==q.line&&bv args&&decide (args.length<29))=true)(ho:(pE C g n).ev sc o ρ= .exc c):(pE C g (n+1)).ev sc (.Call (.Attribute o m ap) args [] q) ρ= .exc c:=by
 show(if(!(fo o&&ap.endLine==q.line&&bv args&&decide (args.length<29)))=true then Res.stuck else((pE C g n).ev sc o ρ).bind _)=_
 rw[if_neg (by rw[hg];decide),ho];rfl
end
end
section
section
variable{C:Calls}
theorem Co{T:Ty}{d:aF}(h:(bt T).getLast? =some d):sh (fH T)++b9 d=sh T:=by
 have e:bt T=(bt T).dropLast++[d]:=by
  have hne:bt T≠[]:=by intro q;rw[q]at h;exact al h
  rw[List.getLast?_eq_some_getLast hne]at h
  obtain rfl:=aq h
  exact(Pr hne).symm
 cases T with
 |bas b s ds=>
  have e:ds=ds.dropLast++[d]:=e
  rw[show fH (.bas b s ds)= .bas b s ds.dropLast from rfl,hZ,hZ,bU,<-kZ,<-e]
 |tup cs ds=>
  have e:ds=ds.dropLast++[d]:=e
  rw[show fH (.tup cs ds)= .tup cs ds.dropLast from rfl,gP,gP,bU,<-kZ,<-e]
theorem Cp{T:Ty}:(sh (fH T)).length<=(sh T).length:=by
 cases h:(bt T).getLast? with
 |some d=>rw[<-Co h,cy];lia
 |none=>
  have hd:bt T=[]:=Pu.mp h
  cases T with
  |bas b s ds=>have hd:ds=[]:=hd;subst hd;exact bO _
  |tup cs ds=>have hd:ds=[]:=hd;subst hd;exact bO _
theorem Oq{T:Ty}(H:Cj C T):aN C false (ag 28) [.str (sh T)]= .ok (.bool true):=by
 have hrd:=H.rd
 have hlv:=H.lv
 have hlval:=H.lval
 rw[Ob]at hrd hlv hlval
 have hdl:=H.dlen.1
 have hlen:=H.len
 have hcat:bH .Add (.str (sh T)) (.str (nm "[3]"))=some (.str (sh T++nm "[3]")):=gM (by rw[show(nm "[3]").length=3 by decide+kernel];exact js ‹_› (by rfl))
 refine dm (names:=[aa "text"]) (by kernel_rfl) rfl ?_
 show aw _ _ [(aa "text", .str (sh T))]=_
 (conv=>lhs;arg 2;whnf)
 (apply aO;(focus (apply bf;kernel_rfl;(focus ((repeat' first|tb_rel|exact hrd);done));lcg_sub)))
 (apply aO;(focus (apply bf;kernel_rfl;(focus ((repeat' first|tb_rel|exact H.told);done));lcg_sub)))
 (apply br;(focus ((repeat' first|tb_rel|exact cR|exact On T);done));(focus (rfl;done));(focus (exact aR)))
 (apply aO;(focus (apply bf;kernel_rfl;(focus ((repeat' first|tb_rel|exact gL|exact Of (by rw[cm];exact aV ‹_› (by rfl)));done));lcg_sub)))
 apply br (c:=(sh T !=sh T)||(((!(bt T).isEmpty) != !((bt T).map aU).isEmpty)||false))
 focus
  apply gd
  apply iB
  ·(repeat' first|tb_rel|exact vp T|exact H.str|exact fD)
  ·intro ø
   apply iB
   ·(repeat' first|tb_rel|exact H.arr|exact Ck|exact qV)
   ·intro ø
    apply A9
    apply nH
    apply L4
    ·kernel_rfl
    ·(repeat' first|tb_rel|exact Om T)
    ·refine Oo (b:= !((bt T).map aU).isEmpty) ?_ (by rw[Dv]) ?_ ?_
     ·(repeat' first|tb_rel|exact Ck)
     ·(repeat' first|tb_rel)
     ·(repeat' first|tb_rel)
    ·exact Oh
 focus (rw[Dv];simp)
 focus exact aR
 (apply br;(focus ((repeat' first|tb_rel|exact H.dyn|exact hlv|exact qV|exact hcat|exact H.ps|exact vn H.eq1|exact rfl|exact H.ps3|exact vn H.eq3);done));(focus (simp;done));(focus (exact aR)))
 have hval:=H.val
 apply aO (ρ':=[(aa "text", .str (sh T)),(aa "due", .list [oh T, .list ((bt T).map aU)]),(aa "told",aH T),(aa "dims", .tuple ((bt T).map aU)),(aa "valid", .bool (cv T))])
 focus
  cases hv:cv T with
  |true=>
   rw[hv]at hval
   have hval:C.meth (bD T) (aa "validate") [aH T]= .ok .none:=hval
   apply Bg
   apply aO
   ·apply Ba
    (repeat' first|tb_rel|exact Cn T|exact hval)
   ·(apply aO;(focus (apply bf;kernel_rfl;(focus ((repeat' first|tb_rel);done));lcg_sub)))
    exact aR
  |false=>
   rw[hv]at hval
   have hval:C.meth (bD T) (aa "validate") [aH T]= .exc .abi:=hval
   refine qg (c:= .abi) (ρ':=[(aa "text", .str (sh T)),(aa "due", .list [oh T, .list ((bt T).map aU)]),(aa "told",aH T),(aa "dims", .tuple ((bt T).map aU))]) ?_ ?_
   ·apply aD
    ·apply d5
     (repeat' first|tb_rel|exact Cn T|exact hval)
    ·rfl
   ·kernel_rfl
 (apply br;(focus ((repeat' first|tb_rel|exact hlval|exact qV);done));(focus (simp;done));(focus (exact aR)))
 apply aO (ρ':=[(aa "text", .str (sh T)),(aa "due", .list [oh T, .list ((bt T).map aU)]),(aa "told",aH T),(aa "dims", .tuple ((bt T).map aU)),(aa "valid", .bool (cv T))])
 focus
  cases T with
  |tup cs ds=>
   have hcl:=H.clen cs ds rfl
   have htx:bn C .NotEq (.list (cs.map λT=> .str (sh T))) (.list (cs.map λT=> .str (sh T)))= .ok false:=by
    have:=Oi (C:=C) (ws:=cs.map sh) (λw hw c hc=>by
     refine ay (ij.mp hw) λU hU zq2=> ?_;subst zq2
     exact H.sign c (Oc hU hc))
    rw[oS]at this;exact this
   have htc:∀{v},(gv (.tup cs ds)).lookup (aa "components")=some v↔v=PV.tuple (cs.map aH):=by
    intro v
    rw[show(gv (.tup cs ds)).lookup (aa "components")=some (PV.tuple (hO cs))from qh (by kernel_rfl) l9,uV]
    constructor
    ·intro h;obtain rfl:=aq h;rfl
    ·intro h;rw[h]
   apply kO
   focus (repeat' first|tb_rel|exact ge|exact bi)
   focus exact vk
   apply gf
   apply jN
   focus (repeat' first|tb_rel|(show dK (aH (.tup cs ds)) (aa "TupleType")=some true;kernel_rfl)|(apply i9;kernel_rfl)|exact htc.mpr rfl|exact hW (by rw[cm];exact aV ‹_› (by rfl))|(refine gJ aH cs (λT=> .str (sh T)) (by kernel_rfl) ?_)|exact vp _|(exact(H.part cs ds rfl) _ (by assumption))|exact ge|exact gL|exact htx)
   focus rfl
   exact aR
  |bas b s ds=>
   have hb1:(gv (.bas b s ds)).lookup (aa "base")=some (.str b):=qh (by kernel_rfl) l9
   have hb2:(gv (.bas b s ds)).lookup (aa "sub")=some (cC s):=qh (by kernel_rfl) (qh (by kernel_rfl) l9)
   apply jN
   focus (repeat' first|tb_rel|exact ge|exact bi)
   focus exact vm
   apply gf
   apply jN
   focus (repeat' first|tb_rel|(show dK (aH (.bas b s ds)) (aa "BasicType")=some true;kernel_rfl)|exact hb1|exact hb2|exact ge|exact gL|exact uK|exact fD|exact Oj)
   focus simp
   exact aR
 cases hl:(bt T).getLast? with
 |none=>
  have hd:bt T=[]:=Pu.mp hl
  have hitem:=H.item
  rw[if_pos hd]at hitem
  rw[hd]
  refine aD (qg (c:= .value) (ρ':=[(aa "text", .str (sh T)),(aa "due", .list [oh T, .list []]),(aa "told",aH T),(aa "dims", .tuple []),(aa "valid", .bool (cv T))]) ?_ (o:= .ret (.bool true)) ?_) rfl
  ·apply gf
   apply L8
   ·kernel_rfl
   ·apply Op
    ·kernel_rfl
    ·(repeat' first|tb_rel|exact hitem)
  ·kernel_rfl
 |some d=>
  have hne:bt T≠[]:=by intro q;rw[q]at hl;exact al hl
  have hitem:=H.item
  rw[if_neg hne]at hitem
  have hw:da d=true:=ba.mp H.wfD d (Dl hl)
  have hdd:=H.dlen.2 d (Dl hl)
  have hdl2:=Cp (T:=T)
  have htxt:=Co hl
  rw[<-Oe d]at htxt hdd
  rw[cy,cy]at hdd
  have hdts:∀a∈ic d,aQ a=true/\ a.length<=90:=by
   cases d with
   |none=>exact λa ha=>nomatch ha
   |some a=>
    intro a' ha
    have ha:a'∈[a]:=ha
    rw[du]at ha;subst ha
    exact⟨hw,by simp[ic,aG]at hdd;exact rS ‹_› (by rfl)⟩
  have hi:bP (aU d)=some ((ic d).map λa=> .int (aL a)):=by
   rw[uS,Od];exact hW (by cases d<;>simp[ic])
  have hj:ci (aa "join") [] [.list ((ic d).map .str)]=some (.str (aG [] (ic d))):=qB (by simp at hdd ⊢;exact rS ‹_› (by rfl))
  have hja:∀x y:List Nat,x.length+y.length<=1000->bH .Add (.str x) (.str y)=some (.str (x++y)):=λx y h=>gM h
  apply aO
  focus
   apply Bg
   apply aO
   focus
    apply bf
    focus kernel_rfl
    focus (repeat' first|tb_rel|exact hitem|exact vp _|exact H.istr hne)
    focus lcg_sub
   exact aR
  apply br
  focus (repeat' first|tb_rel|exact Br)
  focus (rw[Dv];exact vS.mpr λq=>hne (gR.mp q))
  focus exact aR
  (refine aD ?_ rfl;apply a6;(focus ((repeat' first|tb_rel|exact Ol hl|(apply i9;kernel_rfl)|exact hi|(refine gJ (λa=> .int (aL a)) (ic d) .str (by kernel_rfl) ?_)|(exact uT (hdts _ (by assumption)).1 (hdts _ (by assumption)).2)|exact hj|(exact gM (by simp at hdd ⊢;lia))|exact bi);done)))
  rw[show sh (fH T)++[91]++aG [] (ic d)++[93]=sh T by rw[<-htxt];simp,beq_self_eq_true]
end
end
section
theorem gQ(j:Nat):bh (j+1)=⟨g9,i6 (bh j),jK (bh j),lS⟩:=by rw[bh]
theorem Cq{c:aY}{j:Nat}{args:List PV}:(bh (j+1)).meth c (aa "to_type_str") args=(match c with| .tup=>aN (bh j) true (am (ag 13) 1) args| .bas=>aN (bh j) true (am (ag 14) 1) args):=by
 rw[gQ]
 dsimp only
 unfold i6
 rw[if_pos rfl]
 all_goals (cases c<;>rfl)
theorem Cr{c:aY}{j:Nat}{args:List PV}:(bh (j+1)).meth c (aa "validate") args=(match c with| .tup=>aN (bh j) false (am (ag 13) 3) args| .bas=>aN (bh j) false (am (ag 14) 4) args):=by
 rw[gQ]
 dsimp only
 unfold i6
 rw[if_neg (by decide+kernel),if_pos rfl]
 all_goals (cases c<;>rfl)
theorem Os{c:aY}{j:Nat}{args:List PV}:(bh (j+1)).meth c (aa "invalidate") args=aN (bh j) false (am (ag 12) 5) args:=by
 rw[gQ]
 dsimp only
 unfold i6
 rw[if_neg (by decide+kernel),if_neg (by decide+kernel),if_pos rfl]
theorem Ot{c:aY}{j:Nat}{args:List PV}:(bh (j+1)).meth c (aa "__eq__") args=i5 (bh j) args:=by
 rw[gQ]
 dsimp only
 unfold i6
 rw[if_neg (by decide+kernel),if_neg (by decide+kernel),if_neg (by decide+kernel),if_pos rfl]
theorem Ou{c:aY}{j:Nat}{v:PV}:(bh (j+1)).prop c (aa "is_array") v=aN (bh j) false (am (ag 12) 6) [v]:=by
 rw[gQ]
 dsimp only
 unfold jK
 rw[if_pos rfl]
theorem Ov{c:aY}{j:Nat}{v:PV}:(bh (j+1)).prop c (aa "_has_dynamic_arrlist") v=aN (bh j) true (am (ag 12) 8) [v]:=by
 rw[gQ]
 dsimp only
 unfold jK
 rw[if_neg (by decide+kernel),if_pos rfl]
theorem Cs{c:aY}{j:Nat}{v:PV}:(bh (j+1)).prop c (aa "item_type") v=(match c with| .tup=>aN (bh j) false (am (ag 13) 2) [v]| .bas=>aN (bh j) false (am (ag 14) 2) [v]):=by
 rw[gQ]
 dsimp only
 unfold jK
 rw[if_neg (by decide+kernel),if_neg (by decide+kernel),if_pos rfl]
 all_goals (cases c<;>rfl)
theorem Ct{c:aY}{j:Nat}{v:PV}:(bh (j+1)).prop c (aa "is_dynamic") v=(match c with| .tup=>aN (bh j) true (am (ag 13) 4) [v]| .bas=>aN (bh j) false (am (ag 14) 3) [v]):=by
 rw[gQ]
 dsimp only
 unfold jK
 rw[if_neg (by decide+kernel),if_neg (by decide+kernel),if_neg (by decide+kernel),if_pos rfl]
 all_goals (cases c<;>rfl)
structure cU(T:Ty)(L:Nat):Prop where
 wf:wf T=true
 len:(sh T).length<=L
theorem cU.mono{T:Ty}{L M:Nat}(h:cU T L)(hl:L<=M):cU T M:=⟨h.wf,ao h.len hl⟩
theorem cU.part{cs:List Ty}{ds:List aF}{L:Nat}(h:cU (.tup cs ds) L):2<=L/\ ∀T∈cs,cU T (L-2):=by
 have hl:=h.len
 have hw:=h.wf
 rw[gO,aI,aI]at hw
 have h2:=u0 (cs:=cs) (ds:=ds)
 refine bL (jZ (cs:=cs) (ds:=ds)) λp1 ø ø=> ?_
 exact⟨by lia,λT hT=>⟨ba.mp hw.1.2 T hT,by have:=p1 T hT;lia⟩⟩
theorem cU.bas{b:List Nat}{s:bg}{ds:List aF}{L:Nat}(h:cU (.bas b s ds) L):1<=L/\ b.all aK=true/\ dY s=true/\ ds.all da=true/\ (bN s).length<=L:=by
 have hl:=h.len
 have hw:=h.wf
 rw[gN,aI,aI,aI]at hw
 obtain⟨zn1,w4⟩:=hw
 obtain⟨zn2,w3⟩:=zn1
 obtain⟨w1,w2⟩:=zn2
 refine xA (qK (b:=b) (s:=s) (ds:=ds)) λe ø=> ?_
 have:1<=b.length:=by cases b with|nil=>cases w1|cons a r=>simp
 exact⟨by lia,w2,w3,w4,by lia⟩
theorem cU.dims{T:Ty}{L:Nat}(h:cU T L):(bt T).all da=true/\ 2*(bt T).length<=L/\ ∀d∈bt T,(b9 d).length<=L:=by
 have hl:=h.len
 have hw:=h.wf
 cases T with
 |bas b s ds=>
  rw[gN,aI]at hw
  refine xA (qK (b:=b) (s:=s) (ds:=ds)) λe ø=> ?_
  refine xA (kU ds) λh3 h4=> ?_
  exact⟨hw.2,show 2*ds.length<=L by lia,λd hd=>by have:=h4 d hd;lia⟩
 |tup cs ds=>
  rw[gO,aI]at hw
  have h2:=u0 (cs:=cs) (ds:=ds)
  refine xA (kU ds) λh3 h4=> ?_
  exact⟨hw.2,show 2*ds.length<=L by lia,λd hd=>by have:=h4 d hd;lia⟩
theorem la:∀(j:Nat) (T:Ty) (L:Nat),cU T L->L<=90->L<2*j->(bh j).meth (bD T) (aa "to_type_str") [aH T]= .ok (.str (sh T))
 |0,T,L,_,_,h=>by omega
 |j+1, .bas b s ds,L,hF,hL,h=>by
  refine kj hF.bas λø h1 h2 h3 ø=> ?_
  rw[Cq]
  exact MW h2 h3 (ao hF.len hL)
 |j+1, .tup cs ds,L,hF,hL,h=>by
  refine xA hF.part λh2 hp=> ?_
  rw[Cq]
  have:=MT (C:=bh j) (cs:=cs) (ds:=ds) (λT hT=>la j T (L-2) (hp T hT) (ao (ie _ _) ‹_›) (rV ‹_› ‹_›)) hF.dims.1 (ao hF.len hL)
  rw[uU]at this
  exact this
theorem vq{j:Nat}{T:Ty}(hj:1<=j):(bh j).prop (bD T) (aa "is_array") (aH T)= .ok (.bool (!(bt T).isEmpty)):=by
 cases j with
 |zero=>lia
 |succ j=>rw[Ou];exact MX T
theorem Cu{j:Nat}{T:Ty}(hj:2<=j)(hl:(bt T).length<=90):(bh j).prop (bD T) (aa "_has_dynamic_arrlist") (aH T)= .ok (.bool (ew (bt T))):=by
 cases j with
 |zero=>lia
 |succ j=>rw[Ov];exact M0 T hl (vq (by lia))
theorem Cv:∀(j:Nat) (T:Ty) (L:Nat),cU T L->L<=90->L+4<2*j->(bh j).prop (bD T) (aa "is_dynamic") (aH T)= .ok (.bool (cS T))
 |0,T,L,_,_,h=>by lia
 |j+1, .bas b s ds,L,hF,hL,h=>by
  rw[Ct]
  exact NL (Cu (T:= .bas b s ds) (by lia) (by have:=hF.dims.2.1;lia))
 |j+1, .tup cs ds,L,hF,hL,h=>by
  refine xA hF.part λh2 hp=> ?_
  refine bL (jZ (cs:=cs) (ds:=ds)) λø p2 ø=> ?_
  have hH:=Cu (j:=j) (T:= .tup cs ds) (by lia) (by have:=hF.dims.2.1;lia)
  rw[Ct,ms]
  rw[ms]at hH
  exact NM (by have:=hF.len;lia) hH λT hT=>Cv j T (L-2) (hp T hT) (ao (ie _ _) ‹_›) (by lia)
theorem Cw:∀(j:Nat) (T:Ty) (L:Nat),cU T L->L<=90->L+4<2*j->(bh j).meth (bD T) (aa "validate") [aH T]=if cv T=true then .ok .none else .exc .abi
 |0,T,L,_,_,h=>by lia
 |j+1, .bas b s ds,L,hF,hL,h=>by
  refine kj hF.bas λø h1 h2 h3 h4=> ?_
  rw[Cr]
  refine NI h1 h2 (ao ‹_› ‹_›) (λfs m=> ?_)
  cases j with
  |zero=>lia
  |succ j=>rw[Os];exact ND fs m
 |j+1, .tup cs ds,L,hF,hL,h=>by
  refine xA hF.part λh2 hp=> ?_
  refine bL (jZ (cs:=cs) (ds:=ds)) λø p2 ø=> ?_
  have hw:=hF.wf
  rw[gO,aI,aI]at hw
  rw[Cr,ms]
  exact NN (by rintro rfl;cases hw.1.1) (by have:=hF.len;lia) λT hT=>Cw j T (L-2) (hp T hT) (ao (ie _ _) ‹_›) (by lia)
theorem Ow{j:Nat}(hj:1<=j)(x y z:PV):(bh j).fn (aa "BasicType") [x,y,z]= .ok (.inst .bas [(aa "arrlist",z),(aa "base",x),(aa "sub",y)]):=by
 cases j with
 |zero=>omega
 |succ j=>rw[gQ];kernel_rfl
theorem Ox{j:Nat}(hj:1<=j)(x z:PV):(bh j).fn (aa "TupleType") [x,z]= .ok (.inst .tup [(aa "arrlist",z),(aa "components",x)]):=by
 cases j with
 |zero=>omega
 |succ j=>rw[gQ];kernel_rfl
theorem Oy{j:Nat}{T:Ty}{L:Nat}(hF:cU T L)(hL:L<=90)(h:L+4<2*j):(bh j).prop (bD T) (aa "item_type") (aH T)=if bt T=[]then .exc .value else .ok (aH (fH T)):=by
 cases j with
 |zero=>lia
 |succ j=>
  have hs:=la j T L hF hL (by lia)
  have ha:=vq (j:=j) (T:=T) (by lia)
  have hl:=hF.len
  have hd:=hF.dims.2.1
  cases T with
  |bas b s ds=>
   rw[Cs]
   exact NO (show ds.length<=90 by have:2*ds.length<=L:=hd;lia) (ff ‹_› ‹_› (by rfl)) ha hs (Ow (by lia))
  |tup cs ds=>
   rw[ms]at hs ha
   rw[Cs,ms,show fH (.tup cs ds)= .tup cs ds.dropLast from rfl,ms]
   exact NP (show ds.length<=90 by have:2*ds.length<=L:=hd;lia) (ff ‹_› ‹_› (by rfl)) ha hs (Ox (by lia))
theorem Oz{T U:Ty}(hT:wf T=true)(hU:wf U=true)(h:bD T≠bD U):sh T≠sh U:=by
 have key:∀(b:List Nat) (s:bg) (ds:List aF) (cs:List Ty) (es:List aF),wf (.bas b s ds)=true->sh (.bas b s ds)≠sh (.tup cs es):=by
  intro b s ds cs es hw q
  rw[gN,aI,aI,aI]at hw
  rw[hZ,gP]at q
  cases b with
  |nil=>cases hw.1.1.1
  |cons c r=>
   have q:c::(r++bN s++a9 ds)=40::(aG [44] (cs.map sh)++[41]++a9 es):=by simpa using q
   exact(uZ (ba.mp hw.1.1.2 c (.head _))).2.2.1 (List.cons.inj q).1
 cases T with
 |bas b s ds=>
  cases U with
  |bas=>exact absurd rfl h
  |tup cs es=>exact key _ _ _ _ _ hT
 |tup cs es=>
  cases U with
  |bas b s ds=>exact(key _ _ _ _ _ hU).symm
  |tup=>exact absurd rfl h
theorem mv{j:Nat}{T U:Ty}{L:Nat}(hT:cU T L)(hU:cU U L)(hL:L<=90)(h:L+4<2*j):(bh j).meth (bD T) (aa "__eq__") [aH T,aH U]= .ok (.bool (sh T==sh U)):=by
 cases j with
 |zero=>lia
 |succ j=>
  rw[Ot]
  exact NR (la j T L hT hL (by lia)) (la j U L hU hL (by lia)) (Oz hT.wf hU.wf)
end
section
noncomputable abbrev FC(k:Nat):Calls:=fw 40 k
theorem mw(J k:Nat):fw J (k+1)=⟨i7 (fw J k),(bh J).meth,(bh J).prop,(bh J).glob⟩:=by rw[fw]
theorem qW(J:Nat):fw J 0=bh J:=by rw[fw]
theorem lb(k:Nat):(FC k).meth=(bh 40).meth:=by
 cases k with
 |zero=>rw[show FC 0=bh 40 from qW 40]
 |succ k=>rw[show FC (k+1)=_ from mw 40 k]
theorem vr(k:Nat):(FC k).prop=(bh 40).prop:=by
 cases k with
 |zero=>rw[show FC 0=bh 40 from qW 40]
 |succ k=>rw[show FC (k+1)=_ from mw 40 k]
theorem Cx(k:Nat):(FC k).glob=lS:=by
 have:(bh 40).glob=lS:=by rw[gQ 39]
 cases k with
 |zero=>rw[show FC 0=bh 40 from qW 40,this]
 |succ k=>rw[show FC (k+1)=_ from mw 40 k,this]
theorem eY{k:Nat}{f:Str}{st:aC}{args:List PV}(hk:1<=k)(h:pN.lookup f=some st):(FC k).fn f args=aN (FC (k-1)) false st args:=by
 cases k with
 |zero=>lia
 |succ k=>
  rw[show FC (k+1)=_ from mw 40 k]
  show i7 (fw 40 k) f args=_
  unfold i7
  rw[h];rfl
theorem Cy{k:Nat}{f:Str}{args:List PV}(h:pN.lookup f=none)(h2:f≠aa "_law_parts"):(FC k).fn f args=g9 f args:=by
 cases k with
 |zero=>rw[show FC 0=bh 40 from qW 40,gQ 39]
 |succ k=>
  rw[show FC (k+1)=_ from mw 40 k]
  show i7 (fw 40 k) f args=_
  unfold i7
  rw[h]
  exact if_neg h2
theorem OA{k:Nat}(x y z:PV):(FC k).fn (aa "BasicType") [x,y,z]= .ok (.inst .bas [(aa "arrlist",z),(aa "base",x),(aa "sub",y)]):=by
 rw[Cy (by kernel_rfl) (by decide+kernel)];kernel_rfl
theorem OB{k:Nat}(x z:PV):(FC k).fn (aa "TupleType") [x,z]= .ok (.inst .tup [(aa "arrlist",z),(aa "components",x)]):=by
 rw[Cy (by kernel_rfl) (by decide+kernel)];kernel_rfl
theorem OC{k:Nat}(hk:1<=k){s:List Nat}(hs:s.length<=90):(FC k).fn (aa "_law_parts") [.str s]= .ok (.list ((cz s).map .str)):=by
 cases k with
 |zero=>lia
 |succ k=>
  rw[show FC (k+1)=_ from mw 40 k]
  show i7 (fw 40 k) (aa "_law_parts") [.str s]=_
  unfold i7
  rw[show pN.lookup (aa "_law_parts")=none by kernel_rfl]
  show(if aa "_law_parts" =aa "_law_parts" then(if s.length<=aX then Res.ok (PV.list ((cz s).map .str))else .stuck)else _)=_
  have:=dn
  rw[if_pos rfl,if_pos (aV ‹_› (by rfl))]
section
variable{x:List Nat}{k p:Nat}
theorem Cz(hk:1<=k)(hx:x.length<=90)(hp:p<=x.length):(FC k).fn (aa "_parse_digits") [.str x, .int (p:Int)]= .ok (dH x (x.drop p)):=by
 rw[eY hk (st:=ag 6) (by kernel_rfl)]
 exact Ml (by rw[Cx];kernel_rfl) hx hp
theorem CA(hk:2<=k)(hx:x.length<=90)(hp:p<=x.length):(FC k).fn (aa "_parse_arrlist") [.str x, .int (p:Int)]= .ok (.tuple [bM (arr 100 (x.drop p)).1,dG x (arr 100 (x.drop p)).2]):=by
 rw[eY (ao (cV _ _) ‹_›) (st:=ag 7) (by kernel_rfl)]
 exact Mq (λq hq=>Cz (fg ‹_› (by rfl)) hx hq) hx hp
theorem OD(hk:2<=k)(hx:x.length<=90)(hp:p<=x.length):(FC k).fn (aa "_parse_sub") [.str x, .int (p:Int)]= .ok (.tuple [cC (bW (x.drop p)).1,dG x (bW (x.drop p)).2]):=by
 rw[eY (ao (cV _ _) ‹_›) (st:=ag 8) (by kernel_rfl)]
 exact Mn (λq hq=>Cz (fg ‹_› (by rfl)) hx hq) hx hp
theorem CB:∀(n k p:Nat),(x.drop p).length<n->2*n+1<=k->x.length<=90->p<=x.length->(FC k).fn (aa "_parse_type") [.str x, .int (p:Int)]= .ok (iF x (dW n (x.drop p)))
 |0,k,p,h,_,_,_=>by lia
 |n+1,k,p,h,hk,hx,hp=>by
  rw[eY (ao (cV _ _) ‹_›) (st:=ag 10) (by kernel_rfl)]
  refine Mt n (λh40=> ?_) (λq hq=>CA (fg ‹_› (by rfl)) hx hq) (λq hq=>OD (fg ‹_› (by rfl)) hx hq) OA (by rw[Cx];kernel_rfl) hx hp
  rw[eY (fg ‹_› (by rfl)) (st:=ag 9) (by kernel_rfl)]
  have hpl:1<=(x.drop p).length:=by
   cases e:x.drop p with
   |nil=>rw[e]at h40;exact sk h40
   |cons a r=>simp
  rw[eh]at h hpl
  exact Ms (f:=dW n) (uC n) (λq h1 h2=>CB n _ q (by rw[eh];exact DS ‹_› ‹_› ‹_›) (by lia) hx h2) (λq hq=>CA (by lia) hx hq) OB hx hp h40
theorem qX(hk:130<=k)(hx:x.length<=63):(FC k).fn (aa "parse") [.str x]=mu x:=by
 rw[eY (ao (cV _ _) ‹_›) (st:=ag 11) (by kernel_rfl)]
 have hT:=CB (x:=x) 64 (k-1) 0 (by rw[gz];exact fJ ‹_›) (fg ‹_› (by rfl)) (aV ‹_› (by rfl)) (dZ _)
 rw[gz]at hT
 rw[Mv hT (aV ‹_› (by rfl))]
 unfold mu
 cases cZ x with
 |some T=>show Res.ok (dU T)=_;rw[uU]
 |none=>rfl
theorem CC(hk:1<=k){s:List Nat}(hs:s.length<=90):(FC k).fn (aa "_law_number") [.str s]= .ok (cE s):=by
 rw[eY hk (st:=ag 21) (by kernel_rfl)]
 exact MD hs
theorem OE(hk:2<=k){s:List Nat}(hs:s.length<=90):(FC k).fn (aa "_law_name") [.str s]= .ok (uH (eV s)):=by
 rw[eY (by lia) (st:=ag 23) (by kernel_rfl)]
 exact MJ (λs hs=>CC (by lia) hs) hs
theorem CD:∀(n k:Nat) (t:List Nat),t.length<2*n->n+2<=k->t.length<=90->(FC k).fn (aa "_law_read") [.str t]= .ok (d8 (rd n t))
 |0,k,t,h,_,_=>by lia
 |n+1,k,t,h,hk,ht=>by
  rw[eY (ao (cV _ _) ‹_›) (st:=ag 24) (by kernel_rfl)]
  exact MO n (λs hs=>CC (fg ‹_› (by rfl)) hs) (λs hs=>OE (fg ‹_› (by rfl)) hs) (λs hs=>OC (fg ‹_› (by rfl)) hs) (λs hs=>CD n _ s (rW ‹_› ‹_›) (rU ‹_›) (mM ‹_› ‹_› (by rfl))) ht
theorem qY(hk:66<=k)(hx:x.length<=90):(FC k).fn (aa "_law_read") [.str x]= .ok (d8 ((cZ x).map dp)):=by
 rw[CD 64 k x (lA ‹_› (by rfl)) hk hx,Ny hx]
theorem vv(hk:66<=k){T:Ty}(hF:cU T 90):(FC k).fn (aa "_law_read") [.str (sh T)]= .ok (d8 (some (dp T))):=by
 rw[qY hk hF.len,qL hF.wf (by have:=hF.len;exact aV ‹_› (by rfl))];rfl
theorem CE:∀(n k:Nat) (T:Ty) (L:Nat),cU T L->L<=90->L<2*n->n+66<=k->(FC k).fn (aa "_law_varies") [d8 (some (dp T))]= .ok (.bool (cS T))
 |0,k,T,L,_,_,h,_=>by lia
 |n+1,k, .bas b s ds,L,hF,hL,h,hk=>by
  rw[eY (ao (cV _ _) ‹_›) (st:=ag 25) (by kernel_rfl),Ch]
  exact NW
 |n+1,k, .tup cs ds,L,hF,hL,h,hk=>by
  refine xA hF.part λh2 hp=> ?_
  refine bL (jZ (cs:=cs) (ds:=ds)) λø p2 ø=> ?_
  rw[eY (ao (cV _ _) ‹_›) (st:=ag 25) (by kernel_rfl),vj]
  exact NX (by have:=hF.len;lia) (λT hT=>vv (fg ‹_› (by rfl)) ((hp T hT).mono (ao (ie _ _) ‹_›))) (λT hT=>CE n _ T (L-2) (hp T hT) (ao (ie _ _) ‹_›) (rV ‹_› ‹_›) (rU ‹_›))
theorem CF:∀(n k:Nat) (T:Ty) (L:Nat),cU T L->L<=90->L<2*n->n+66<=k->(FC k).fn (aa "_law_valid") [d8 (some (dp T))]= .ok (.bool (cv T))
 |0,k,T,L,_,_,h,_=>by omega
 |n+1,k, .bas b s ds,L,hF,hL,h,hk=>by
  rw[eY (ao (cV _ _) ‹_›) (st:=ag 26) (by kernel_rfl),Ch,NZ hF.bas.2.2.1];rfl
 |n+1,k, .tup cs ds,L,hF,hL,h,hk=>by
  refine xA hF.part λh2 hp=> ?_
  refine bL (jZ (cs:=cs) (ds:=ds)) λø p2 ø=> ?_
  rw[eY (ao (cV _ _) ‹_›) (st:=ag 26) (by kernel_rfl),vj]
  exact NY (by have:=hF.len;omega) (λT hT=>vv (fg ‹_› (by rfl)) ((hp T hT).mono (ao (ie _ _) ‹_›))) (λT hT=>CF n _ T (L-2) (hp T hT) (ao (ie _ _) ‹_›) (rV ‹_› ‹_›) (rU ‹_›))
theorem CG(hk:131<=k)(hx:x.length<=63):(FC k).fn (aa "_law_told") [.str x]= .ok (k9 x):=by
 rw[eY (ao (cV _ _) ‹_›) (st:=ag 27) (by kernel_rfl)]
 exact N9 (qX (fg ‹_› (by rfl)) hx)
theorem vA(T:Ty):sh (ib T)=sh T++nm "[3]" :=by
 have e:nm "[3]" =b9 (some [51]):=by decide+kernel
 rw[e]
 cases T with
 |bas b s ds=>rw[show ib (.bas b s ds)= .bas b s (ds++[some [51]])from rfl,hZ,hZ,kZ];simp
 |tup cs ds=>rw[show ib (.tup cs ds)= .tup cs (ds++[some [51]])from rfl,gP,gP,kZ];simp
theorem OF{T:Ty}(h:wf T=true):wf (ib T)=true:=by
 have e:da (some [51])=true:=by decide+kernel
 cases T with
 |bas b s ds=>
  rw[gN,aI]at h
  rw[show ib (.bas b s ds)= .bas b s (ds++[some [51]])from rfl,gN,rJ,h.1,h.2];simp[e]
 |tup cs ds=>
  rw[gO,aI]at h
  rw[show ib (.tup cs ds)= .tup cs (ds++[some [51]])from rfl,gO,rJ,h.1,h.2];simp[e]
theorem OG{T:Ty}{L:Nat}(h:cU T L):cU (fH T) L:=by
 refine⟨?_,ao Cp h.len⟩
 have hw:=h.wf
 have hd:∀ds:List aF,ds.all da=true->ds.dropLast.all da=true:=λds h=>ba.mpr λd hd=>ba.mp h d (Pj _ hd)
 cases T with
 |bas b s ds=>
  rw[gN,aI]at hw
  rw[show fH (.bas b s ds)= .bas b s ds.dropLast from rfl,gN,hw.1,hd _ hw.2];rfl
 |tup cs ds=>
  rw[gO,aI]at hw
  rw[show fH (.tup cs ds)= .tup cs ds.dropLast from rfl,gO,hw.1,hd _ hw.2];rfl
theorem Q0(T:Ty):bD (ib T)=bD T:=by cases T<;>rfl
theorem CH{T:Ty}(hk:130<=k)(hF:cU T 63):(FC k).fn (aa "parse") [.str (sh T)]= .ok (aH T):=by
 rw[qX hk hF.len]
 unfold mu
 rw[qL hF.wf (by have:=hF.len;exact aV ‹_› (by rfl))]
theorem OH{T:Ty}(hk:132<=k)(hF:cU T 60)(hs:∀c∈sh T,c<1114112):Cj (FC k) T:=by
 have hl:=hF.len
 have hA:cU (ib T) 63:=⟨OF hF.wf,by rw[vA,cy,show(nm "[3]").length=3 by decide+kernel];exact js ‹_› (by rfl)⟩
 have hF3:cU T 63:=hF.mono (by decide)
 refine bL hF.dims λd1 d2 d3=> ?_
 have hne:(sh T==sh (ib T))=false:=by
  rw[beq_eq_false_iff_ne,vA]
  intro q
  have:=congrArg vM q
  rw[cy,show(nm "[3]").length=3 by decide+kernel]at this
  lia
 constructor
 ·exact vv (ao (cV _ _) ‹_›) (hF.mono (by decide))
 ·rw[CG (ao (cV _ _) ‹_›) (aV ‹_› (by rfl))]
  unfold k9
  rw[qL hF.wf (aV ‹_› (by rfl))]
 ·rw[lb];exact la 40 T 60 hF (by decide) (by decide)
 ·rw[vr];exact vq (by decide)
 ·rw[vr];exact Cv 40 T 60 hF (by decide) (by decide)
 ·exact CE 32 k T 60 hF (by decide) (by decide) (ao (cV _ _) ‹_›)
 ·exact CH (ao (cV _ _) ‹_›) hF3
 ·rw[<-vA];exact CH (ao (cV _ _) ‹_›) hA
 ·rw[lb,mv hF hF (by decide) (by decide),beq_self_eq_true]
 ·rw[lb,mv hF3 hA (by decide) (by decide),hne]
 ·rw[lb];exact Cw 40 T 60 hF (by decide) (by decide)
 ·exact CF 32 k T 60 hF (by decide) (by decide) (ao (cV _ _) ‹_›)
 ·rw[vr];exact Oy hF (by decide) (by decide)
 ·intro ø;rw[lb];exact la 40 (fH T) 60 (OG hF) (by decide) (by decide)
 ·intro cs ds e U hU
  subst e
  rw[lb];exact la 40 U 58 (hF.part.2 U hU) (by decide) (by decide)
 ·exact d1
 ·exact aV ‹_› (by rfl)
 ·exact⟨by lia,λd hd=>by have:=d3 d hd;exact aV ‹_› (by rfl)⟩
 ·intro cs ds e
  subst e
  refine bL (jZ (cs:=cs) (ds:=ds)) λø p2 ø=> ?_
  exact ff ‹_› ‹_› (by rfl)
 ·exact hs
theorem CI(hk:133<=k)(hx:x.length<=60)(hs:∀c∈x,c<1114112):(FC k).fn (aa "_law_agrees") [.str x]= .ok (.bool true):=by
 rw[eY (ao (cV _ _) ‹_›) (st:=ag 28) (by kernel_rfl)]
 cases e:cZ x with
 |none=>
  refine Oa e ?_ (CG (fg ‹_› (by rfl)) (aV ‹_› (by rfl)))
  rw[qY (fg ‹_› (by rfl)) (aV ‹_› (by rfl)),e];rfl
 |some T=>
  refine xA (qH e) λh1 h2=> ?_
  subst h1
  exact Oq (OH (fg ‹_› (by rfl)) ⟨h2,hx⟩ hs)
end
end
section
noncomputable def j6:List (List Nat):=["(", ")", "[", "]", ",", "x", "0", "7", "[]", "()", " ", "a", "[12]"].map nm
theorem OI{C:Calls}:aN C false (ag 18) []= .ok (.list (j6.map .str)):=by kernel_rfl
theorem OJ:j6.length=13/\ j6.all (λw=>decide (w.length<=4)&&w.all λc=>decide (c<1114112))=true:=by decide+kernel
theorem qZ{C:Calls}{r:Option Rd}:bn C .IsNot (d8 r) .none= .ok r.isSome:=by
 rw[iE]
 cases r with
 |none=>rfl
 |some r=>cases r<;>rfl
theorem OK{xs:List PV}{b:Nat}{v:PV}(hb:b<=1000)(h:xs[b]? =some v):fi (.list xs) (.int (b:Int))=some v:=by
 exact(mc xs b hb).trans h
theorem OL{b:Nat}(hb:b<=12):∃w,j6[b]? =some w/\ w.length<=4/\ ∀c∈w,c<1114112:=by
 refine xA OJ λh1 h2=> ?_
 have hlt:b<j6.length:=fJ ‹_›
 refine⟨j6[b],fQ hlt,?_⟩
 have:=ba.mp h2 _ (rE hlt)
 rw[aI,decide_eq_true_eq,ba]at this
 exact⟨this.1,λc hc=>by simpa using this.2 c hc⟩
theorem OM{C:Calls}{t:Int}:bn C .Eq (.int t) (.int 0)= .ok (t==0):=ve
theorem ON{x:List Nat}(h:dF x 40):(pE (FC 140) false 24).tst (cg (ag 29)) b8.t5 [(aa "text", .str x)]= .ok false:=by
 have ha:=CI (k:=140) (by decide) (ao h.1 (by decide)) h.2
 (conv=>lhs;arg 3;whnf)
 apply d6
 focus (repeat' first|tb_rel|exact ha)
 rfl
theorem OO{x y:List Nat}(hx:dF x 40)(hy:dF y 20):(pE (FC 140) false 24).tst (cg (ag 29)) b8.t6 [(aa "text", .str x),(aa "other", .str y)]= .ok false:=by
 have hl1:=hx.1
 have hl2:=hy.1
 have rx:=qY (x:=x) (k:=140) (by decide) (aV ‹_› (by rfl))
 have ry:=qY (x:=y) (k:=140) (by decide) (aV ‹_› (by rfl))
 have px:=qX (x:=x) (k:=140) (by decide) (aV ‹_› (by rfl))
 have py:=qX (x:=y) (k:=140) (by decide) (aV ‹_› (by rfl))
 unfold mu at px py
 (conv=>lhs;arg 3;whnf)
 cases e1:cZ x with
 |none=>
  rw[e1]at rx
  refine d6 (b:=false&&false) (gd (kN ?_ λq=>nomatch q)) rfl
  refine d6 (b:=((none:Option Ty).map dp).isSome) ?_ rfl
  (repeat' first|tb_rel|exact rx|exact qZ)
 |some T=>
  rw[e1]at rx px
  cases e2:cZ y with
  |none=>
   rw[e2]at ry
   refine d6 (b:=true&&(false&&false)) (gd (kN ?_ λø=>kN ?_ λq=>nomatch q)) rfl
   ·refine d6 (b:=((some T).map dp).isSome) ?_ rfl
    (repeat' first|tb_rel|exact rx|exact qZ)
   ·refine d6 (b:=((none:Option Ty).map dp).isSome) ?_ rfl
    (repeat' first|tb_rel|exact ry|exact qZ)
  |some U=>
   rw[e2]at ry py
   refine xA (qH e1) λt1 t2=> ?_
   refine xA (qH e2) λu1 u2=> ?_
   have he:(FC 140).meth (bD T) (aa "__eq__") [aH T,aH U]= .ok (.bool (sh T==sh U)):=by
    rw[lb];exact mv (L:=40) ⟨t2,by rw[t1];exact aV ‹_› (by rfl)⟩ ⟨u2,by rw[u1];exact aV ‹_› (by rfl)⟩ (by decide) (by decide)
   have px:(FC 140).fn (aa "parse") [.str x]= .ok (aH T):=px
   have py:(FC 140).fn (aa "parse") [.str y]= .ok (aH U):=py
   refine d6 (b:=((some T).map dp).isSome&&(((some U).map dp).isSome&&((sh T==sh U) !=(x==y)))) ?_ ?_
   ·(repeat' first|tb_rel|exact rx|exact ry|exact px|exact py|exact qZ|exact vn he|exact bi|exact qV)
   ·rw[t1,u1];simp
theorem OP{x:List Nat}(h:dF x 60):(pE (FC 140) false 24).ev (cg (ag 29)) b8.ep [(aa "text", .str x)]= .ok (.int ((x.length:Int)+1)):=by
 have hS:Sm x:=by have:=h.1;unfold Sm;exact aV ‹_› (by rfl)
 (conv=>lhs;arg 3;whnf)
 apply ja
 focus (repeat' first|tb_rel|exact fC hS|exact cB)
 rfl
theorem OQ{t:Int}{x:List Nat}(h:dF x 60):(pE (FC 140) false 24).ev (cg (ag 29)) b8.e8 [(aa "turns", .int t),(aa "text", .str x)]= .ok (.bool true):=by
 (conv=>lhs;arg 3;whnf)
 apply ja (v:= .bool ((t==0)||true))
 focus (repeat' first|tb_rel|exact(CI (k:=140) (by decide) h.1 h.2)|exact OM)
 rw[Bool.or_true]
theorem OR{x:List Nat}{i m:Int}{L:Nat}(h:dF x L)(hL:L<=56)(hi0:0<=i)(hi:i<(x.length:Int)+1)(hm0:0<=m)(hm:m<16):∃z,(pE (FC 140) false 24).ev (cg (ag 29)) (.IfExp b8.x1 b8.x2 b8.x3 (b8.p 53)) [(aa "text", .str x),(aa "place", .int i),(aa "mark", .int m)]= .ok (.str z)/\ dF z (L+4):=by
 refine xE (Pv hi0) λa zq1=> ?_;subst zq1
 refine xE (Pv hm0) λb zq1=> ?_;subst zq1
 have hl:=h.1
 have hS:Sm x:=by unfold Sm;lia
 have ha:a<=1000:=by lia
 have h1:(x.take a).length<=x.length:=(List.take_sublist a x).length_le
 have h2:(x.drop a).length<=x.length:=(List.drop_sublist a x).length_le
 have hsum:(x.take a).length+(x.drop a).length=x.length:=by rw[<-cy,kh]
 have ht:(pE (FC 140) false 23).tst (cg (ag 29)) b8.x1 [(aa "text", .str x),(aa "place", .int (a:Int)),(aa "mark", .int (b:Int))]= .ok (decide ((b:Int)>12)):=by
  (conv=>lhs;arg 3;whnf)
  (repeat' first|tb_rel|exact vc)
 by_cases hb:b<=12
 ·refine bA (OL hb) λw w1 w2 w3=> ?_
  have hfn:(FC 140).fn (aa "_law_marks") []= .ok (.list (j6.map .str)):=by
   rw[eY (by decide) (st:=ag 18) (by kernel_rfl)];exact OI
  have hw:(j6.map PV.str)[b]? =some (.str w):=by rw[ll,w1];rfl
  refine⟨x.take a++w++x.drop a,kS ht (by rw[decide_eq_false_iff_not];lia) ?_,?_,?_⟩
  ·(conv=>lhs;arg 3;whnf)
   (repeat' first|tb_rel|exact me hS ha|exact hfn|exact OK (by lia) hw|exact ql hS ha|(with_reducible exact gM (by lia))|(with_reducible exact gM (by rw[cy];lia)))
  ·rw[cy,cy];lia
  ·intro c hc
   refine ck (gU.mp hc) (λhc=> ?_) (λhc=> ?_)
   ·refine ck (gU.mp hc) (λhc=> ?_) (λhc=> ?_)
    ·exact h.2 c (wo hc)
    ·exact w3 c hc
   ·exact h.2 c (Pw hc)
 ·have h3:(x.drop (a+1)).length<=x.length:=(List.drop_sublist (a+1) x).length_le
  have h4:(x.drop (a+1)).length<=(x.drop a).length:=by rw[eh,eh];lia
  refine⟨x.take a++x.drop (a+1),kR ht (by rw[decide_eq_true_eq];lia) ?_,?_,?_⟩
  ·(conv=>lhs;arg 3;whnf)
   (repeat' first|tb_rel|(with_reducible exact cB)|(with_reducible exact me hS ha)|(with_reducible exact ql hS (by lia))|(with_reducible exact gM (by lia)))
  ·rw[cy];lia
  ·intro c hc
   refine ck (gU.mp hc) (λhc=> ?_) (λhc=> ?_)
   ·exact h.2 c (wo hc)
   ·exact h.2 c (Pw hc)
theorem OS:l4 (cg (ag 29)) (pE (fw J0 K0) false 24) where
 t5:=λx h=>ON h
 t6:=λx y h h' =>OO h h'
 ep:=λx h=>OP h
 c16:=λρ=>A3
 c3:=λρ=>A3
 ifx:=λx i m L h1 h2 h3 h4 h5 h6=>OR h1 h2 h3 h4 h5 h6
 e8:=λt x h=>OQ h
end
section
end
end Mine
section
open PySem PySem.W PySem.Calls PyProof.Rows Mine
theorem PySem.Challenge.cw_iv0009_01_holds : PySem.Challenge.rw_iv0009_01.Holds := by
 w_on
 refine holds_law (by rw[Fast.te9446332074065402090];kernel_rfl) λsaid=> ?_
 refine holds_open (q:=vw) (loose:=["ABIType", "TupleType", "BasicType"]) (Xt:=λs=>xlAt vw [] s&&recOk (CM gx.row.toRowW) s) (XP:=XL vw []) (Yf:=Hook.obs hH) (Ya:=Hook.val hH) (YP:=Hook.says hH) (N:=5602) EH (Hook.of hH) (Hook.keeps hH) (λs e=>xl_of s (oE.mp e).1) XL.keeps (by rfl) (by rfl) (by rfl) (λs e=>recFacts_of (oE.mp e).2) (by rfl) said (by decide+kernel) ⟨rfl,rfl,rfl,rfl,rfl,by decide+kernel⟩ ?hw ?hc
 case hw=>w_witness2
 intro w s₀ s₁ mg mb G Y fa o pm cd doc dV kV ho hd hcd hD hmg hg args vals as hpre hlay hrd hwl hlo
 have KX:=km_in_of Y
 have TB:=km_tabs_of Y
 refine Ground.open G ?_
 intro T B D TE TW
 try (refine guard_noD D ?_)
 wrow_args hpre hlay hrd hwl hlo
 rename_i hL ra w1 r0 hI hr hc hc2
 exact L3 OS KX TB T hg hmg hL hI hc
end
