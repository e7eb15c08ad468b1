import PyProof.Rows.All
import Wide.All
import OpenK.AllK
import Wide.FinOn
import KE.KRevSl
import KE.KEqDict
import Lean
import PySem.Challenge.RW_nb0314_02
open PySem PySem.W PyProof.Rows
set_option Elab.async false
set_option linter.unusedVariables false
set_option linter.unusedSimpArgs false
set_option maxRecDepth 100000
set_option maxHeartbeats 8000000
set_option bootstrap.genMatcherCode false
set_option genSizeOf false
set_option genInjectivity false
namespace Mine.Internal
noncomputable section
open _root_.And renaming intro->zi
open _root_.Array renaming toList_append->oj, size_append->lU, mem_toList_iff->vh, any_toList->zg, isEmpty->Cs, isEmpty_iff->yt, length_toList->cj, getElem?_toList->cV, replicate->ic, getElem?_setIfInBounds->nY, getElem?_eq_some_iff->dM, append_empty->pU, empty_append->pV, append_assoc->xb, size->BO, getElem?_setIfInBounds_ne->mr, mk->GB, all_toList->zv
open _root_.Bool renaming and_eq_true->aS, or_eq_true->eA, casesOn->cG, false_eq_true->cR, or_false->Cu, not_eq_true'->lX, not_eq_false->yy, eq_false_iff->yB, false_ne_true->bj, and_eq_true_iff->vn, not_true->fE, not_false->fk, true->ao, false->bf
open _root_.Char renaming toNat->xh
open _root_.Decidable renaming not_not->yz
open _root_.Exists renaming elim->el
open _root_.ForInStep renaming yield->dE
open _root_.Int renaming lt_of_le_of_lt->lB, ofNat_le->jd, le_trans->je, add_comm->yh, natAbs_of_nonneg->nI, emod_eq_of_lt->yj, not_lt->mO, emod_nonneg->z2, le_of_eq->oC, lt_of_lt_of_le->pP, lt_trans->yk, fdiv->BM, fmod->kT, le_of_lt->tH, ofNat_lt->oG, toNat_of_nonneg->vY, toNat_natCast->md, natCast_nonneg->d0, min_eq_left->z5, max_eq_right->sF, add_zero->kB, sub_eq_iff_eq_add->jI, sub_eq_zero->gJ, ofNat_inj->nr, ofNat->sJ, ofNat_sub->wD, fmod_nonneg_of_pos->tQ
open Int.ofNat renaming inj->kX
open _root_.List renaming mem_cons->aZ, mem_singleton->aL, casesOn->aC, getElem?_toArray->mz, push_toArray->yl, set_cons_succ->w5, filter_eq_nil_iff->jf, getElem?_eq_getElem->di, getElem_mem->rZ, getElem?_eq_none->eG, getElem?_set_self->dX, forIn_cons->lq, append_nil->bB, length_nil->gF, nodup_append->bo, mem_map_of_mem->og, set_set->oD, append_assoc->aQ, size_toArray->gB, length_map->aH, range'->cb, drop_eq_getElem_cons->fQ, getElem?_set_ne->bH, range'_succ->ku, range_eq_range'->vc, drop_zero->pQ, getElem?_append_left->aJ, set_append_left->ve, cons_append->e9, length_cons->aU, dropLast_concat_getLast->nW, flatten_cons->yp, mem_append_left->cf, map_append->cw, mem_append_right->cI, length_set->dI, length_append->aq, length->vg, nil_append->dS, nodup_nil->dz, nodup_cons->bu, range->mQ, replicate->gw, isEmpty_iff->sb, getElem_of_mem->oh, mem_of_getElem?->bN, mem_append->aG, getElem?_append_right->bT, getElem?_inj->iq, lookup_cons->cz, getElem?_eq_none_iff->ql, reverse_cons->qL, all_cons->iD, any_cons->rz, find?_cons->jx, drop_of_length_le->fI, length_eq_zero_iff->gC, filter_cons->ky, any_eq_true->iX, map_cons->bx, map_congr_left->d9, any_eq_false->yu, pairwise_singleton->sf, pairwise_cons->ji, countP_cons->sr, all_eq_true->bK, foldl_cons->fO, foldl->pT, drop_succ_cons->vX, getElem?_map->ei, sum_cons->jF, getElem?_eq_some_iff->cS, drop_length->zh, forIn_nil->vl, getElem?_drop->pY, filterMap_cons->oq, mem_map->aT, sizeOf_lt_of_mem->uf, map_nil->yC, filter->qO, lookup->qP, drop->sC, filterMap->BP, zip_nil_right->xg, take_append_drop->mD, mem_nil_iff->de, set_append_right->ui, mem_flatMap->cJ, flatMap_cons->bz, map_map->dw, not_mem_nil->aV, flatMap_append->ot, flatMap_nil->kz, find?_eq_none->xj, mem_of_find?_eq_some->qs, find?_some->z4, filter_append->qb, filter_eq_self->v8, length_filter_le->cK, take_of_length_le->mf, dropWhile_cons->kL, drop_append_of_le_length->i7, map_drop->nq, length_drop->kA, isEmpty_map->zr, map->sH, filter_congr->jT, filter_cons_of_neg->b7, filter_cons_of_pos->cu, mem_reverse->zt, find?_cons_of_pos->mi, find?_cons_of_neg->jm, mem_filter->bL, filter_sublist->iP, find?_append->fM, filter_filter->qd, count_cons_self->vt, count_cons_of_ne->uj, count_pos_iff->qe, count_eq_zero_of_not_mem->gx, count_eq_countP->vu, flatMap_singleton->jn, filter_flatMap->v9, flatMap_def->zu, mem_iff_getElem?->uk, length_singleton->fT, head?_eq_getElem?->tO, dropWhile_sublist->tP, mem_of_mem_head?->mE, nodup_range'->qR, perm_ext_iff_of_nodup->qg, mem_range'_1->qS, getD_eq_getElem?_getD->qh, mem_range->BX, length_take->fy, mem_of_mem_drop->kf, map_take->wF, mem_of_mem_take->nQ
open List.Perm renaming eq_of_pairwise->rC
open List.cons renaming sizeOf_spec->ug
open _root_.Nat renaming ble->An, le_trans->ai, le_of_ble_eq_true->ak, lt_of_le_of_lt->aW, le_of_eq->ar, add_right_comm->aN, ne_of_lt->bP, lt_succ_of_lt->gA, add_le_add_left->bE, succ_pos->lR, add_le_add->dW, add_comm->cF, le_of_add_le_add_right->j8, add_assoc->dC, add_sub_of_le->fG, le_refl->ax, lt_or_ge->ew, le_of_lt->bS, add_zero->lS, mul_zero->ym, le_add_right->aF, not_le->tu, zero_add->fH, ne_of_gt->eM, le_of_lt_succ->dF, lt_trans->aD, le_add_left->dH, le_antisymm->ib, mul_le_mul_left->df, le_add_right_of_le->jg, add_le_add_right->cg, beq->il, lt_irrefl->aX, not_lt->cD, eq_zero_or_pos->w6, le_of_sub_eq_zero->mA, casesOn->nM, zero_le->eS, le_add_left_of_le->bR, min_le_left->eV, min_eq_left->jy, lt_of_add_right_lt->jh, not_lt_zero->gI, lt_of_succ_lt_succ->tG, le_total->yv, sub_eq_zero_of_le->ud, one_pos->zU, lt_of_lt_of_le->ag, add_sub_cancel_left->dO, sub_lt_sub_left->oo, lt_succ_self->bU, lt_add_of_pos_right->sA, le_succ->lF, lt_add_of_pos_left->tL, le_of_succ_le->eN, succ_lt_succ->zq, not_succ_lt_self->iw, sub_self->me, min_eq_right->sG, le_of_not_le->mU, le_succ_of_le->ix, sub_le->BU, succ_le_succ->iZ, sub_add_cancel->gh, le_of_succ_le_succ->fc, lt_of_le_of_ne->qc, pos_of_ne_zero->xm, one_le_of_lt->sI, le_of_add_right_le->dY, eq_of_beq_eq_true->um, lt_succ_of_le->yF, sub_le_sub_right->vB, mod_lt->xo, div_lt_of_lt_mul->kg
open Nat.le renaming intro->cM
open _root_.Ne renaming symm->yn
open _root_.Option renaming map_some->cU, none->ae, casesOn->aw, map_eq_some_iff->bY, bind_eq_some_iff->dq, isSome_iff_exists->iE, bind_some->ct, isNone_iff_eq_none->hY, map->iF, map_none->dT, getD_some->zk, getD_none->zl, mem_toList->yE, bind->vA, some->af
open Option.some renaming inj->t5, injEq->gD
open _root_.Or renaming elim->vR
open _root_.PUnit renaming unit->fW
open _root_.Prod renaming fst->GA
open Prod.mk renaming injEq->Cw
open _root_.Pure renaming pure->aA
open _root_.PyProof renaming noPylong_small->tE
open PyProof.Rows renaming StrsAre->Ap, seqObj->xa, evalArgs_nil3->rG
open _root_.PySem renaming Expr->au, cellsFrom->gH, Params->eR, Result->BL, Around->iW, Comprehension->iC, treeTable->eZ, standAt->lj, callSpecialIfBoundUnlessNone?->nJ, GenState->nK, OsState->gO, dictEntries->zR, subDict->vP, typeLookup->tw, isSubtype->r7, mergeMapping->yo, FuncData->kS, ClassData->oS, mainGlobals->gu, bootBuiltins->tA, seqIndex?->oU, clipAt->kJ, Operator->yq, intKind->iO, nsFind->tB, getAttr->oE, wpAny_Name->w7, wpAny_loadName_cell->vV, wpAny_bind->aB, wpAny_nsGet->zS, wpAny_pure->bF, wpAny_storeName_local->uc, wpAny_holding->dZ, SubscriptOn->zT, wpAny_getItem_list_slice->rA, call_meetsIn->oF, typeLookup_type->jz, builtinLookup_eq_fast->fR, isSubtype_type->iY, codeAny->gP, codeAny_call_builtin->nN, wpAny_call->pS, codeAny_builtin->t6, setAttr->Ao, wpAny_of_eq->nO, pyIter->rB, getMethod->mR, getMethod_builtin->fJ, call_meets->mS, wpAny_specialOf->nZ, letOwnedTupleGo->lr, wpAny_execs_nil->t7, foldedSetIterable->qM, notedBy->tJ, noteFrame->sz, wpAny_standAt->eD, wpAny_mono->fZ, backTo->kb, starEach->fK, wpAny_items_nil->t8, keeperOf->yx, wpAny_Constant_str->xc, wpAny_isTrue_BoolOp->v3, wpAny_allTrue_And_cons->tK, wpAny_allTrue_Or_cons->ue, attributeBase->nk, wpAny_letTemporaryGo->vk, methodCall->pX, methodCallForm->lY, methodCallPos->wA, assignEach->iG, wpAny_assign_Name->jR, rawInt->xd, NameKind->ir, wpAny_newObj_type->jS, swapsWithSole->wB, wpAny_Return_some->qN, wpAny_execs_cons->mT, seqItems?->zj, wpAny_setField->l9, wpAny_field->kc, wpAny_seqItems->vm, entry_listiter_next->v7, Addr->bk, Program->qJ, World->jw, Shared->aM, Value->ay, Heap->pO, Stmt->fY
open PySem.BoolOp renaming casesOn->eU
open PySem.Builtin.Getset_descriptor renaming descrItself->vT, descrSet->w8, descrStoreThrough->sM, descrCheckInstance->sd, descrNameAndClass->sN
open PySem.Builtin.Int renaming intBits->vW
open PySem.Builtin.List renaming listExtendWith->oH, listTooLong->rF
open PySem.Builtin.Range renaming rangeSize->ed, small->iM, rangeFitsLong->oN
open PySem.Builtin.Str renaming occurrences->fw, glued->lV
open PySem.Builtin.Tuple renaming tupleCompareSizes->ml
open PySem.Calls renaming call_function_entry->qo
open PySem.Challenge renaming rw_nb0314_02->dU
open PySem.CmpOp renaming Eq->kU, IsNot->vp, Is->sE, NotEq->vq, In->ke
open PySem.Code renaming quiet_builtin->w9
open PySem.Comprehension.mk renaming sizeOf_spec->xe
open PySem.Const renaming casesOn->vZ
open PySem.Data renaming casesOn->lC
open PySem.EntryCells renaming newEntry->v5
open PySem.ExceptHandler.ExceptHandler renaming sizeOf_spec->rH
open PySem.Expr renaming casesOn->bg
open PySem.Expr.Attribute renaming sizeOf_spec->l7
open PySem.Expr.BinOp renaming sizeOf_spec->n5
open PySem.Expr.BoolOp renaming sizeOf_spec->nP
open PySem.Expr.Call renaming sizeOf_spec->oK
open PySem.Expr.Compare renaming sizeOf_spec->gb
open PySem.Expr.IfExp renaming sizeOf_spec->jA
open PySem.Expr.ListComp renaming sizeOf_spec->mq
open PySem.Expr.NamedExpr renaming sizeOf_spec->yA
open PySem.Expr.Subscript renaming sizeOf_spec->l8
open PySem.F renaming slot_dict_delitem->qm, plainAttrs_list->fx, slot_list_append->rD, slot_list_extend->kW, slot_list_clear->si, slot_list_index->sk, slot_list_count->so, plainAttrs_dict->sq, slot_dict_get->mB, slot_dict_values->rE, entry_dict_get->tI, args_dict_get_2->sy, entry_list_extend->qp, args_list_extend_2->pW
open PySem.Heap renaming mk->Ez, lt_size->du, get?_push_of_some->aP, get?_push_size->dh, SameBut->ip, get?_update_self->fS, size_push->lZ, get?_update_other->jj
open PySem.Heap.IsSliceOf renaming new->Ir
open PySem.Heap.SameBut renaming update->kK
open PySem.Keeper renaming frame->oJ, machine->lW, boundFrame->jQ
open PySem.NameKind renaming casesOn->tC, free->eW, cell->Cv
open PySem.Obj renaming mapDictKeys->z3, casesOn->lT, data_mapFields->g9, mapFields->gR, isFreed_of_fields->mC, cls_mapFields->ma
open PySem.Operator renaming casesOn->tD, Add->fL, Sub->yD, Mod->oM
open PySem.PyData renaming eqv->mP, int->BV, strOk->eO, canLayAll0->iy, canLay0->BW, depthAll->dJ, str->xn, depth->EB, list->GC
open PySem.Sem renaming bind_eq_wrap'->yi, wrap_wrap->nj
open PySem.SeqRoads2.EqGives renaming str->EG
open PySem.Stmt renaming casesOn->pR
open PySem.Stmt.If renaming sizeOf_spec->qr
open PySem.Stmt.While renaming sizeOf_spec->n6
open PySem.Str renaming ofString->ah, ofString_eq_toList->tN
open PySem.Txt renaming lower->vQ
open PySem.Value renaming int->zf, str->kr, type->gG, builtin->rx, ref->cC, casesOn->iN, isStrOf->Cr, isInt->vi, none->cq
open PySem.W renaming topRun->vb, topRun_mono->zQ, findIn->j9, specialIn->r9, takesIn->yr, typeIn->BN, takerIn->qK, keepIn->ka, looks_field->vj, WRecords->BQ, boot_heap->gY, boot_drawn->gc, behindTheImports->sD, restOf->zm, boot_toks->zo, looks_pair->jl, Frag->r8
open PySem.W.Fast renaming te10110043849684766642->gS, te14364793385576792824->gU
open PySem.W.KF renaming slot_mset->yw
open PySem.W.Looks renaming of_pure->wy
open PySem.W.WData renaming casesOn->uh, plainAll->BR, int->vU
open PySem.W.WShape renaming has->tM, hasItems->n7, hasAll->wC
open PySem.pyHashByItsType renaming reduced->rY
open _root_.String renaming reduceEq->eX
variable{C p:Prop}{α β K:Type}{a:bk}{b d r n k i tk j tx:Nat}{e elt:au}{pr prog:qJ}{w:jw}{s s':aM}{t g:Str->List Str}{x y name nm:Str}{part:Option ay}{args ts:List au}{L l seen:List Str}{pos:Pos}{z ks:List Nat}{u:Unit}{ρ ρ':List bk}{P:eR}{ys vals:List ay}{h h':pO}{env:Env}{fl:List Env}{Pre:List bk->Prop}{R:BL->aM->Prop}{Q E:ay->aM->Prop}{A:iW}{val:ay}{kvs bv:List (Str × ay)}{sl:Array (Option ay)}{m:Str->Option ay}{St:Nat->pO->Prop}{gens:List iC}{scope:Scope}{hd:Bool}{rg:Option (List Str)}{fz:Option Nat}
theorem d7{p0 p1:Prop}(h:p0/\p1)(k:p0->p1->C):C:=by
 obtain ⟨h0,h1⟩:=h;exact k h0 h1
theorem cW{p0 p1 p2:Prop}(h:p0/\p1/\p2)(k:p0->p1->p2->C):C:=by
 obtain ⟨h0,h1,h2⟩:=h;exact k h0 h1 h2
theorem iA{p0 p1 p2 p3:Prop}(h:p0/\p1/\p2/\p3)(k:p0->p1->p2->p3->C):C:=by
 obtain ⟨h0,h1,h2,h3⟩:=h;exact k h0 h1 h2 h3
theorem iJ{p0 p1 p2 p3 p4:Prop}(h:p0/\p1/\p2/\p3/\p4)(k:p0->p1->p2->p3->p4->C):C:=by
 obtain ⟨h0,h1,h2,h3,h4⟩:=h;exact k h0 h1 h2 h3 h4
theorem iQ{p0 p1 p2 p3 p4 p5:Prop}(h:p0/\p1/\p2/\p3/\p4/\p5)(k:p0->p1->p2->p3->p4->p5->C):C:=by
 obtain ⟨h0,h1,h2,h3,h4,h5⟩:=h;exact k h0 h1 h2 h3 h4 h5
theorem lG{α:Sort _}{p0:α->Prop}(h:∃x0,p0 x0)(k:∀x0,p0 x0->C):C:=by
 obtain ⟨x0,h0⟩:=h;exact k _ h0
theorem aR{α:Sort _}{p0 p1:α->Prop}(h:∃x0,p0 x0/\p1 x0)(k:∀x0,p0 x0->p1 x0->C):C:=by
 obtain ⟨x0,h0,h1⟩:=h;exact k _ h0 h1
theorem cO{α:Sort _}{p0 p1 p2:α->Prop}(h:∃x0,p0 x0/\p1 x0/\p2 x0)(k:∀x0,p0 x0->p1 x0->p2 x0->C):C:=by
 obtain ⟨x0,h0,h1,h2⟩:=h;exact k _ h0 h1 h2
theorem Dc{α:Sort _}{p0 p1 p2 p3:α->Prop}(h:∃x0,p0 x0/\p1 x0/\p2 x0/\p3 x0)(k:∀x0,p0 x0->p1 x0->p2 x0->p3 x0->C):C:=by
 obtain ⟨x0,h0,h1,h2,h3⟩:=h;exact k _ h0 h1 h2 h3
theorem LA{α:Sort _}{p0 p1 p2 p3 p4:α->Prop}(h:∃x0,p0 x0/\p1 x0/\p2 x0/\p3 x0/\p4 x0)(k:∀x0,p0 x0->p1 x0->p2 x0->p3 x0->p4 x0->C):C:=by
 obtain ⟨x0,h0,h1,h2,h3,h4⟩:=h;exact k _ h0 h1 h2 h3 h4
theorem vC{α:Sort _}{p0 p1 p2 p3 p4 p5:α->Prop}(h:∃x0,p0 x0/\p1 x0/\p2 x0/\p3 x0/\p4 x0/\p5 x0)(k:∀x0,p0 x0->p1 x0->p2 x0->p3 x0->p4 x0->p5 x0->C):C:=by
 obtain ⟨x0,h0,h1,h2,h3,h4,h5⟩:=h;exact k _ h0 h1 h2 h3 h4 h5
theorem Aq{α:Sort _}{β:Sort _}{p0:α->β->Prop}(h:∃x0 x1,p0 x0 x1)(k:∀x0 x1,p0 x0 x1->C):C:=by
 obtain ⟨x0,x1,h0⟩:=h;exact k _ _ h0
theorem gk{α:Sort _}{β:Sort _}{p0 p1:α->β->Prop}(h:∃x0 x1,p0 x0 x1/\p1 x0 x1)(k:∀x0 x1,p0 x0 x1->p1 x0 x1->C):C:=by
 obtain ⟨x0,x1,h0,h1⟩:=h;exact k _ _ h0 h1
theorem ck{α:Sort _}{β:Sort _}{p0 p1 p2:α->β->Prop}(h:∃x0 x1,p0 x0 x1/\p1 x0 x1/\p2 x0 x1)(k:∀x0 x1,p0 x0 x1->p1 x0 x1->p2 x0 x1->C):C:=by
 obtain ⟨x0,x1,h0,h1,h2⟩:=h;exact k _ _ h0 h1 h2
theorem ey{α:Sort _}{β:Sort _}{p0 p1 p2 p3:α->β->Prop}(h:∃x0 x1,p0 x0 x1/\p1 x0 x1/\p2 x0 x1/\p3 x0 x1)(k:∀x0 x1,p0 x0 x1->p1 x0 x1->p2 x0 x1->p3 x0 x1->C):C:=by
 obtain ⟨x0,x1,h0,h1,h2,h3⟩:=h;exact k _ _ h0 h1 h2 h3
theorem dD{α:Sort _}{β:Sort _}{p0 p1 p2 p3 p4:α->β->Prop}(h:∃x0 x1,p0 x0 x1/\p1 x0 x1/\p2 x0 x1/\p3 x0 x1/\p4 x0 x1)(k:∀x0 x1,p0 x0 x1->p1 x0 x1->p2 x0 x1->p3 x0 x1->p4 x0 x1->C):C:=by
 obtain ⟨x0,x1,h0,h1,h2,h3,h4⟩:=h;exact k _ _ h0 h1 h2 h3 h4
theorem iB{α:Sort _}{β:Sort _}{p0 p1 p2 p3 p4 p5:α->β->Prop}(h:∃x0 x1,p0 x0 x1/\p1 x0 x1/\p2 x0 x1/\p3 x0 x1/\p4 x0 x1/\p5 x0 x1)(k:∀x0 x1,p0 x0 x1->p1 x0 x1->p2 x0 x1->p3 x0 x1->p4 x0 x1->p5 x0 x1->C):C:=by
 obtain ⟨x0,x1,h0,h1,h2,h3,h4,h5⟩:=h;exact k _ _ h0 h1 h2 h3 h4 h5
theorem sO{α:Sort _}{β:Sort _}{γ:Sort _}{p0:α->β->γ->Prop}(h:∃x0 x1 x2,p0 x0 x1 x2)(k:∀x0 x1 x2,p0 x0 x1 x2->C):C:=by
 obtain ⟨x0,x1,x2,h0⟩:=h;exact k _ _ _ h0
theorem gj{α:Sort _}{β:Sort _}{γ:Sort _}{p0 p1:α->β->γ->Prop}(h:∃x0 x1 x2,p0 x0 x1 x2/\p1 x0 x1 x2)(k:∀x0 x1 x2,p0 x0 x1 x2->p1 x0 x1 x2->C):C:=by
 obtain ⟨x0,x1,x2,h0,h1⟩:=h;exact k _ _ _ h0 h1
theorem jo{α:Sort _}{β:Sort _}{γ:Sort _}{p0 p1 p2:α->β->γ->Prop}(h:∃x0 x1 x2,p0 x0 x1 x2/\p1 x0 x1 x2/\p2 x0 x1 x2)(k:∀x0 x1 x2,p0 x0 x1 x2->p1 x0 x1 x2->p2 x0 x1 x2->C):C:=by
 obtain ⟨x0,x1,x2,h0,h1,h2⟩:=h;exact k _ _ _ h0 h1 h2
theorem b9{α:Sort _}{β:Sort _}{γ:Sort _}{p0 p1 p2 p3:α->β->γ->Prop}(h:∃x0 x1 x2,p0 x0 x1 x2/\p1 x0 x1 x2/\p2 x0 x1 x2/\p3 x0 x1 x2)(k:∀x0 x1 x2,p0 x0 x1 x2->p1 x0 x1 x2->p2 x0 x1 x2->p3 x0 x1 x2->C):C:=by
 obtain ⟨x0,x1,x2,h0,h1,h2,h3⟩:=h;exact k _ _ _ h0 h1 h2 h3
theorem jV{α:Sort _}{β:Sort _}{γ:Sort _}{p0 p1 p2 p3 p4:α->β->γ->Prop}(h:∃x0 x1 x2,p0 x0 x1 x2/\p1 x0 x1 x2/\p2 x0 x1 x2/\p3 x0 x1 x2/\p4 x0 x1 x2)(k:∀x0 x1 x2,p0 x0 x1 x2->p1 x0 x1 x2->p2 x0 x1 x2->p3 x0 x1 x2->p4 x0 x1 x2->C):C:=by
 obtain ⟨x0,x1,x2,h0,h1,h2,h3,h4⟩:=h;exact k _ _ _ h0 h1 h2 h3 h4
theorem dy{α:Sort _}{β:Sort _}{γ:Sort _}{p0 p1 p2 p3 p4 p5:α->β->γ->Prop}(h:∃x0 x1 x2,p0 x0 x1 x2/\p1 x0 x1 x2/\p2 x0 x1 x2/\p3 x0 x1 x2/\p4 x0 x1 x2/\p5 x0 x1 x2)(k:∀x0 x1 x2,p0 x0 x1 x2->p1 x0 x1 x2->p2 x0 x1 x2->p3 x0 x1 x2->p4 x0 x1 x2->p5 x0 x1 x2->C):C:=by
 obtain ⟨x0,x1,x2,h0,h1,h2,h3,h4,h5⟩:=h;exact k _ _ _ h0 h1 h2 h3 h4 h5
theorem gM{α:Sort _}{β:Sort _}{γ:Sort _}{δ:Sort _}{p0:α->β->γ->δ->Prop}(h:∃x0 x1 x2 x3,p0 x0 x1 x2 x3)(k:∀x0 x1 x2 x3,p0 x0 x1 x2 x3->C):C:=by
 obtain ⟨x0,x1,x2,x3,h0⟩:=h;exact k _ _ _ _ h0
theorem LB{α:Sort _}{β:Sort _}{γ:Sort _}{δ:Sort _}{p0 p1:α->β->γ->δ->Prop}(h:∃x0 x1 x2 x3,p0 x0 x1 x2 x3/\p1 x0 x1 x2 x3)(k:∀x0 x1 x2 x3,p0 x0 x1 x2 x3->p1 x0 x1 x2 x3->C):C:=by
 obtain ⟨x0,x1,x2,x3,h0,h1⟩:=h;exact k _ _ _ _ h0 h1
theorem Cy{α:Sort _}{β:Sort _}{γ:Sort _}{δ:Sort _}{p0 p1 p2:α->β->γ->δ->Prop}(h:∃x0 x1 x2 x3,p0 x0 x1 x2 x3/\p1 x0 x1 x2 x3/\p2 x0 x1 x2 x3)(k:∀x0 x1 x2 x3,p0 x0 x1 x2 x3->p1 x0 x1 x2 x3->p2 x0 x1 x2 x3->C):C:=by
 obtain ⟨x0,x1,x2,x3,h0,h1,h2⟩:=h;exact k _ _ _ _ h0 h1 h2
theorem sP{α:Sort _}{β:Sort _}{γ:Sort _}{δ:Sort _}{p0 p1 p2 p3:α->β->γ->δ->Prop}(h:∃x0 x1 x2 x3,p0 x0 x1 x2 x3/\p1 x0 x1 x2 x3/\p2 x0 x1 x2 x3/\p3 x0 x1 x2 x3)(k:∀x0 x1 x2 x3,p0 x0 x1 x2 x3->p1 x0 x1 x2 x3->p2 x0 x1 x2 x3->p3 x0 x1 x2 x3->C):C:=by
 obtain ⟨x0,x1,x2,x3,h0,h1,h2,h3⟩:=h;exact k _ _ _ _ h0 h1 h2 h3
theorem uo{α:Sort _}{β:Sort _}{γ:Sort _}{δ:Sort _}{p0 p1 p2 p3 p4:α->β->γ->δ->Prop}(h:∃x0 x1 x2 x3,p0 x0 x1 x2 x3/\p1 x0 x1 x2 x3/\p2 x0 x1 x2 x3/\p3 x0 x1 x2 x3/\p4 x0 x1 x2 x3)(k:∀x0 x1 x2 x3,p0 x0 x1 x2 x3->p1 x0 x1 x2 x3->p2 x0 x1 x2 x3->p3 x0 x1 x2 x3->p4 x0 x1 x2 x3->C):C:=by
 obtain ⟨x0,x1,x2,x3,h0,h1,h2,h3,h4⟩:=h;exact k _ _ _ _ h0 h1 h2 h3 h4
theorem kh{α:Sort _}{β:Sort _}{γ:Sort _}{δ:Sort _}{p0 p1 p2 p3 p4 p5:α->β->γ->δ->Prop}(h:∃x0 x1 x2 x3,p0 x0 x1 x2 x3/\p1 x0 x1 x2 x3/\p2 x0 x1 x2 x3/\p3 x0 x1 x2 x3/\p4 x0 x1 x2 x3/\p5 x0 x1 x2 x3)(k:∀x0 x1 x2 x3,p0 x0 x1 x2 x3->p1 x0 x1 x2 x3->p2 x0 x1 x2 x3->p3 x0 x1 x2 x3->p4 x0 x1 x2 x3->p5 x0 x1 x2 x3->C):C:=by
 obtain ⟨x0,x1,x2,x3,h0,h1,h2,h3,h4,h5⟩:=h;exact k _ _ _ _ h0 h1 h2 h3 h4 h5
theorem iK[d:Decidable p](h:decide p=ao):p:=of_decide_eq_true h
theorem fm{α:Type _}{a:α}{l:List α}:a∈a::l:=List.mem_cons_self
theorem i8{α:Type _}{a:α}{l:List α}(b:α)(h:a∈l):a∈b::l:=List.mem_cons_of_mem b h
theorem jJ{α:Type _}{a b:α}{l:List α}(h:a∈b::l):a=b∨a∈l:=aZ.mp h
theorem all1{P:α->Prop}{a:α}(h1:P a):∀x∈ [a],P x:=λx h=>aL.mp h▸h1
theorem all2{P:α->Prop}{a b:α}(h1:P a)(h2:P b):∀x∈ [a,b],P x:=λx h=>(aZ.mp h).elim (λe=>e▸h1) (all1 h2 x)
theorem O9{P:α->Prop}{a b c:α}(h1:P a)(h2:P b)(h3:P c):∀x∈ [a,b,c],P x:=λx h=>(aZ.mp h).elim (λe=>e▸h1) (all2 h2 h3 x)
theorem VA{G:Prop}(h:∀P:Prop,(G->P)->P):G:=h G id
theorem qi{a c:Nat}(h:a<=b)(k:An b c=ao):a<=c:=ai h (ak k)
theorem Iu{a c:Nat}(h:a<=b)(k:An (b+1) c=ao):a<c:=aW h (ak k)
theorem Pa{a c:Nat}(h:b=a)(g:b<=c)(k:An c d=ao):a<=d:=h▸qi g k
theorem tgq{a c:Nat}(h:a=b)(k:An c b=ao):c<=a:=h▸ak k
theorem VB{a c:Nat}(h:a+(b+1)<=c):a+1+b<=c:=ai (ar (aN a 1 b)) h
theorem Vj{a c:Nat}(h:a+(b+1)<c):a+1+b<c:=aW (ar (aN a 1 b)) h
theorem OX{a:Nat}(h:a<b):a≠b+1:=bP (gA h)
theorem RE{a c:Nat}(h:a+(b+1)<=c):a+1<=c:=ai (bE (lR b) a) h
theorem Vk{a c:Nat}(h:a+(b+1)=c):a<c:=RE (ar h)
theorem Yl{a c:Nat}(h:a<=d)(k:b<=c):a+b<=c+d:=ai (dW h k) (ar (cF d c))
theorem VC{a c:Nat}(h:a<=d)(k:b<=d*c):a+b<=d*(c+1):=Yl h k
theorem SK{a:Nat}{c:Int}(h:a<=b)(k:(b:Int)<c):(a:Int)<c:=lB (jd.mpr h) k
theorem YN{a:Int}{c:Int}(h:a.natAbs<=b)(k:(b:Int)<c):a<c:=lB Int.le_natAbs (SK h k)
theorem nbq{a:Int}{c:Int}(h:a.natAbs<=b)(k:c<= -(b:Int)):c<=a:=
 je k (Int.neg_le_of_neg_le (je Int.le_natAbs (jd.mpr (ai (ar (Int.natAbs_neg a)) h))))
theorem w1q{a c e f:Nat}(h:a+c<=d+f)(k:b+f<=1+e):a+b+c<=d+1+e:=
 j8 (b:=f) (ai (ar ((congrArg (· +f) (aN a b c)).trans (dC _ _ _))) (ai (dW h k) (ar ((Nat.add_add_add_comm d f 1 e).trans ((congrArg _ (cF f e)).trans (dC _ _ _).symm)))))
theorem m1q(n:Nat):(-1:Int)+((n:Int)+1)=n:=(congrArg (-1+ ·) (yh n 1)).trans (Int.neg_add_cancel_left 1 n)
section
variable{n₀:Nat}{ann:Option ay}
def TR(pr:qJ)(w:jw)(n₀:Nat)(ann:Option ay)(N:Nat)(s:aM)(t:Thread)(r:aM):Prop:=vb eZ pr w n₀ ann N s t=af r
theorem mV{N:Nat}{r:aM}{t t':Thread}(h1:through t=bf)(h2:stepOk n₀ ann t=ao)(h3:step (denote eZ) pr w s t= .go s' t')
  (h:TR pr w n₀ ann N s' t' r):TR pr w n₀ ann (N+1) s t r:=by
 dsimp only [TR,vb];rw [h1,h2,h3];exact h
theorem Pb{N:Nat}(k:Nat){r:aM}{t:Thread}(h:TR pr w n₀ ann N s t r):TR pr w n₀ ann (N+k) s t r:=zQ k _ _ _ _ h
def eH(pr:qJ)(w:jw)(n₀:Nat)(ann:Option ay)(n:Nat)(m:Sem α)(s:aM)(a:α)(s':aM):Prop:=
 ∀(K:α->Sem Fin) (H:ay->Sem Fin) (gd:Bool->Bool) (lv:List ay->List ay) (c:Code) (p:Pos) (st:List Frame),
  ∃p',∀N r,TR pr w n₀ ann N s' ⟨K a,c,p',st⟩ r->TR pr w n₀ ann (N+n) s ⟨m.wrap K H gd lv,c,p,st⟩ r
variable{n₁ n₂:Nat}{s₁ s_2:aM}{a:α}{b:β}
theorem c7:eH pr w n₀ ann 0 (aA a:Sem α) s a s:=λ_ _ _ _ _ p _=>⟨p,λ_ _ h=>h⟩
theorem rI{m:Sem α}(h:eH pr w n₀ ann n₁ m s a s')(hn:n₁<=n₂):eH pr w n₀ ann n₂ m s a s':=λK H gd lv c p st=>by
 obtain ⟨p',hp⟩:=h K H gd lv c p st;refine ⟨p',λN r hr=>?_⟩;have:=Pb (n₂-n₁) (hp N r hr)
 rwa [show N+n₁+(n₂-n₁)=N+n₂ from (dC _ _ _).trans (congrArg _ (fG hn))] at this
theorem vD{m:Sem α}{f:α->Sem β}(h:eH pr w n₀ ann n₁ m s a s₁)(h':eH pr w n₀ ann n₂ (f a) s₁ b s_2):eH pr w n₀ ann (n₁+n₂) (m>>=f) s b s_2:=λK H gd lv c p st=>by
 obtain ⟨p_1,h1⟩:=h (λa=>(f a).wrap K H gd lv) H gd lv c p st;obtain ⟨p_2,h2⟩:=h' K H gd lv c p_1 st;refine ⟨p_2,λN r hr=>?_⟩;rw [yi,nj,show N+(n₁+n₂)=(N+n₂)+n₁ from (dC _ _ _).symm.trans (aN _ _ _)];exact h1 _ r (h2 N r hr)
theorem JS{m:Sem α}(vs:List ay)(h:eH pr w n₀ ann n m s a s'):eH pr w n₀ ann n (m.keep vs) s a s':=λK H gd lv c p st=>by
 rw [Sem.keep_eq_wrap,nj];exact h K H gd (λl=>lv (vs++l)) c p st
theorem eJ{m:Sem α}(vs:List ay)(h:eH pr w n₀ ann n m s a s'):eH pr w n₀ ann n (holding vs m) s a s':=by
 unfold holding;split
 ·exact h
 ·exact JS _ h
theorem BZ{m:Sem α}{k:ay->Sem α}(h:eH pr w n₀ ann n m s a s'):eH pr w n₀ ann n (tryCatch m k) s a s':=λK H gd lv c p st=>by
 show∃p',∀N r,_->TR pr w n₀ ann (N+n) s ⟨(Sem.tryCatch m k).wrap K H gd lv,c,p,st⟩ r;rw [Sem.tryCatch_eq_wrap,nj];exact h K _ _ lv c p st
theorem Dd{m:Sem α}{k:ay->Sem Unit}(h:eH pr w n₀ ann n m s a s'):eH pr w n₀ ann n (m.onRaise k) s a s':=λK H gd lv c p st=>by
 rw [Sem.onRaise_eq_wrap,nj];exact h K _ _ lv c p st
theorem Ar:eH pr w n₀ ann 1 fresh s s.toks {s with toks:=s.toks+1}:=λK H gd lv c p st=>⟨p,λN r hr=>mV (by induction st using aC<;>rfl) (by rfl) (by rfl) hr⟩
theorem Cz{tag:String}:eH pr w n₀ ann 1 (rule tag) s () s:=λK H gd lv c p st=>⟨p,λN r hr=>mV (by induction st using aC<;>rfl) (by rfl) (by rfl) hr⟩
theorem sQ{q:Pos}:eH pr w n₀ ann 1 (lj q) s () s:=λK H gd lv c p st=>⟨q,λN r hr=>mV (by induction st using aC<;>rfl) (by rfl) (by rfl) hr⟩
theorem LC:eH pr w n₀ ann 1 ask s ⟨pr,w.params⟩ s:=λK H gd lv c p st=>⟨p,λN r hr=>mV (by induction st using aC<;>rfl) (by rfl) (by rfl) hr⟩
theorem As{o:Obj}:eH pr w n₀ ann 1 (alloc o) s s.heap.objs.size {s with heap:=s.heap.push o}:=λK H gd lv c p st=>⟨p,λN r hr=>mV (by induction st using aC<;>rfl) (by rfl) (by rfl) hr⟩
theorem kO{x:bk}{o:Obj}(ho:s.heap.get? x=af o):eH pr w n₀ ann 1 (loadPart x part) s o s:=λK H gd lv c p st=>⟨p,λN r hr=>mV (by induction st using aC<;>rfl) (by rfl) (by
 obtain ⟨h,g,d,tk,os⟩:=s;show (match h.get? x with|some o=>Step.go _ _|none=>_)=_;rw [show h.get? x=af o from ho];rfl) hr⟩
theorem zV{x:bk}{o:Obj}{f:Obj->Obj}(ho:s.heap.get? x=af o)(hx:n₀<=x):eH pr w n₀ ann 1 (updatePart x part f) s () {s with heap:=s.heap.update x f}:=λK H gd lv c p st=>⟨p,λN r hr=>mV (by induction st using aC<;>rfl) (by
 show (ao&&(An n₀ x||_||_||_))=ao;rw [Nat.ble_eq_true_of_le hx];rfl) (by
 obtain ⟨h,g,d,tk,os⟩:=s;show (if (h.get? x).isSome then Step.go _ _ else _)=_;rw [show h.get? x=af o from ho];rfl) hr⟩
theorem wG{i:Int}:eH pr w n₀ ann 1 (mkInt i) s (.int i s.toks) {s with toks:=s.toks+1}:=vD (f:=λt=>aA (zf i t)) Ar c7
theorem EH:eH pr w n₀ ann 1 (mkText x) s (.str x s.toks) {s with toks:=s.toks+1}:=vD (f:=λt=>aA (kr x t)) Ar c7
theorem xr(k:Int)(t:Tok):specialOf (.int k t) "__hash__" =aA (af (.builtin "int.__hash__")):=by kernel_rfl
theorem yH(k:Int)(t:Tok):bindSpecial (.builtin "int.__hash__") (.int k t)=aA (.builtin "int.__hash__",[.int k t]):=by kernel_rfl
theorem LD(k:Int)(t:Tok):callAny (.builtin "int.__hash__") ⟨[.int k t],[]⟩=aA (.again (.builtin "int.__hash__" ⟨[.int k t],[]⟩)):=by kernel_rfl
theorem GJ(k:Int)(t:Tok):denote eZ (.builtin "int.__hash__" ⟨[.int k t],[]⟩)=Builtin.«int.__hash__» ⟨[.int k t],[]⟩:=by kernel_rfl
theorem JT(k:Int)(t:Tok):Builtin.«int.__hash__» ⟨[.int k t],[]⟩=
  (retInt (if (if k<0 then-((k.natAbs:Int)%(2^61-1:Nat)) else (k.natAbs:Int)%(2^61-1:Nat))== -1 then-2 else (if k<0 then-((k.natAbs:Int)%(2^61-1:Nat)) else (k.natAbs:Int)%(2^61-1:Nat)))):=by kernel_rfl
theorem Pd(m:Sem α):m.wrap .pure .raise id id=m:=by
 induction m<;>simp only [Sem.wrap,id, *]
theorem yI{id:String}{args:Args}{body:Sem PySem.Fin}{v:ay}(h1:callAny (.builtin id) args=aA (.again (.builtin id args)))(hlt:id.startsWith "lifetime." =bf)
  (h2:denote eZ (.builtin id args)=body) (h3:eH pr w n₀ ann n body s (.done (.ret v)) s'):eH pr w n₀ ann (n+3) (runValue (.call (.builtin id) args)) s v s':=λK H gd lv c p st=>by
 obtain ⟨h,g,d,tk,os⟩:=s;refine ⟨p,λN r hr=>?_⟩;have e0:denote eZ (.call (.builtin id) args)= .pure (.again (.builtin id args)):=h1
 let kk:BL->Sem PySem.Fin:=λr=>((match r with| .ok f=>(Sem.pure f:Sem Flow)| .error e=>.raise e).bind λx=>match x with| .ret v=>(aA v:Sem ay)|_=>unsupported "internal:call-without-return-value").wrap K H gd lv
 obtain ⟨kept,t1⟩:∃kept,step (denote eZ) pr w ⟨h,g,d,tk,os⟩ ⟨(runValue (.call (.builtin id) args)).wrap K H gd lv,c,p,st⟩=
   .go ⟨h,g,d,tk,os⟩ ⟨.pure (.again (.builtin id args)),.call (.builtin id) args,p,.ret kk ae (gd bf) (lv []) c p kept::st⟩:=by
  refine (e0).symm▸ ?_;induction c using PySem.Code.casesOn<;>exact ⟨_,rfl⟩
 have t2:=step_again (den:=denote eZ) (p:=pr) (w:=w) (heap:=h) (gens:=g) (drawn:=d) (toks:=tk) (os:=os) (c:=.builtin id args) (code:=.call (.builtin id) args) (pos:=p) (k:=kk) (h:=none) (g:=gd bf) (l:=lv []) (cd:=c) (p₀:=p) (kept:=kept) (rest:=st);rw [h2] at t2;obtain ⟨p',h3'⟩:=h3 .pure .raise _root_.id _root_.id (.builtin id args) p (.ret kk ae (gd bf) (lv []) c p (keptBy (.call (.builtin id) args) (.builtin id args) (lv []) kept)::st);rw [Pd] at h3';have fin:TR pr w n₀ ann (N+1) s' ⟨.pure (.done (.ret v)),.builtin id args,p',.ret kk ae (gd bf) (lv []) c p (keptBy (.call (.builtin id) args) (.builtin id args) (lv []) kept)::st⟩ r:=by
  obtain ⟨h',g',d',tk',os'⟩:=s';exact mV (by rfl) (by rfl) (by rfl) hr
 have:=mV (pr:=pr) (w:=w) (n₀:=n₀) (ann:=ann) (by rfl) (by
  show ((!(id.startsWith "lifetime.")||_)&&_&&ao&&ao)=ao;rw [hlt];rfl) t2 (h3' _ r fin)
 have:=mV (pr:=pr) (w:=w) (n₀:=n₀) (ann:=ann) (by induction st using aC<;>rfl) (by rfl) t1 this;rw [show N+(n+3)=N+1+n+1+1 from congrArg (· +2) (aN N n 1)];exact this
theorem LF{k:Int}(h0:0<=k)(h1:k<2305843009213693951):
  (if (if k<0 then-((k.natAbs:Int)%(2^61-1:Nat)) else (k.natAbs:Int)%(2^61-1:Nat))== -1 then-2 else (if k<0 then-((k.natAbs:Int)%(2^61-1:Nat)) else (k.natAbs:Int)%(2^61-1:Nat)))=k:=by
 have e:(k.natAbs:Int)%(2^61-1:Nat)=k:=by
  rw [show ((2^61-1:Nat):Int)=2305843009213693951 by decide,nI h0];exact yj h0 h1
 rw [e,if_neg (mO.mpr (je (z2 _ (by decide)) (oC e)):¬k<0)];have:(k== -1)=bf:=by simp;exact (Int.ne_of_lt (pP (by decide) (je (z2 _ (by decide)) (oC e)))).symm
 refine this▸ ?_;rfl
theorem bJ{m:Sem α}{f:α->Sem β}(hn:n₁+n₂<=n)(h:eH pr w n₀ ann n₁ m s a s₁)(h':eH pr w n₀ ann n₂ (f a) s₁ b s_2):eH pr w n₀ ann n (m>>=f) s b s_2:=rI (vD h h') hn
theorem JU{k:Int}{t:Tok}(h0:0<=k)(h1:k<2305843009213693951):eH pr w n₀ ann 5 (pyHash (.int k t)) s k {s with toks:=s.toks+1}:=by
 show eH pr w n₀ ann 5 (pyHashByItsType (.int k t)) s k {s with toks:=s.toks+1};unfold pyHashByItsType;rw [xr];change eH pr w n₀ ann 5 (nJ (.int k t) "__hash__" _>>=_) s k _;refine bJ (ax _) (n₁:=5) (n₂:=0) (a:=af (.int k s.toks)) (s₁:={s with toks:=s.toks+1}) ?_ ?_
 ·unfold nJ;refine eJ _ ?_;refine bJ (by decide) (n₁:=1) (n₂:=4) (a:=af (.builtin "int.__hash__",[.int k t])) (s₁:=s) ?_ ?_
  ·unfold bindSpecialIfBound?;rw [xr];refine bJ (ak rfl) (n₁:=0) (n₂:=1) (a:=af (.builtin "int.__hash__")) (s₁:=s) c7 ?_;refine bJ (ax _) (n₁:=1) (n₂:=0) (a:=⟨pr,w.params⟩) (s₁:=s) LC ?_;dsimp only;rw [yH];split
   ·exact c7
   ·exact BZ c7
  ·refine bJ (ax _) (n₁:=4) (n₂:=0) (a:=.int k s.toks) (s₁:={s with toks:=s.toks+1}) ?_ c7;refine yI (n:=1) (LD k t) (by decide+kernel) (GJ k t) ?_;rw [JT,LF h0 h1];exact vD (n₁:=1) (n₂:=0) (f:=λv=>ret v) wG c7
 ·show eH pr w n₀ ann 0 (rY k) _ _ _;unfold rY;rw [if_pos (by simp;exact ⟨je (by decide) h0,yk h1 (by decide)⟩)];have:(k== -1)=bf:=by simp;exact (Int.ne_of_lt (pP (by decide) h0)).symm
  refine this▸ ?_;exact c7
end
noncomputable abbrev hp(L:List Obj)(life:Life):pO:=⟨L.toArray,life⟩
theorem yJ{L:List Obj}{life:Life}{a:Nat}{es:List DictEntry}(h:L[a]? =af (dictOf es n)):(hp L life).get? a=af (dictOf es n):=by
 unfold Heap.get?;show (match L.toArray[a]? with|some ⟨_,_,.freed,_⟩=>ae|o=>o)=_;rw [mz,h]
theorem Iv(L:List Obj)(life:Life)(o:Obj):(hp L life).push o=hp (L++ [o]) life:=by
 show Ez (L.toArray.push o) life=Ez (L++ [o]).toArray life;rw [yl]
theorem Au(f:β->β):∀(L:List β) (a:Nat) (x:β),L[a]? =af x->L.modify a f=L.set a (f x)
 | [],a,x,h=>by trivial
 |y::L,0,x,h=>by simp at h;subst h;rfl
 |y::L,a+1,x,h=>by
  have:=Au f L a x (by simpa using h);simp only [List.modify_succ_cons,w5,this]
theorem JV{L:List Obj}{life:Life}{a:Nat}{o:Obj}(f:Obj->Obj)(h:L[a]? =af o):(hp L life).update a f=hp (L.set a (f o)) life:=by
 show Ez (L.toArray.modify a f) life=Ez (L.set a (f o)).toArray life;refine (Au f L a o h).symm▸ ?_;congr 1;apply Array.ext';simp
noncomputable abbrev sh(L:List Obj)(life:Life)(g:Array nK)(dr:Drawn)(tk:Nat)(os:gO):aM:=⟨hp L life,g,dr,tk,os⟩
section
variable{n₀:Nat}{ann:Option ay}{L:List Obj}{life:Life}{g:Array nK}{dr:Drawn}{os:gO}{d:bk}{es:List DictEntry}{k:Int}{t:Tok}{v:ay}
theorem GK(h:∀e∈es,e.hash≠k):placesWithHash es.toArray.size (λi=>es.toArray[i]?.map (·.hash)) k= []:=by
 unfold placesWithHash;refine (jf).mpr ?_;intro i hi;have hi':i<es.length:=by simpa using hi
 simp only [mz,di hi',cU];have:=h es[i] (rZ hi');simpa using this
theorem ki(h:L[d]? =af (dictOf es n)):eH pr w n₀ ann 1 (zR d part) (sh L life g dr tk os) es.toArray (sh L life g dr tk os):=by
 unfold zR;exact bJ (ax _) (n₁:=1) (n₂:=0) (kO (o:=dictOf es n) (yJ h)) c7
theorem ur(h:L[d]? =af (dictOf es n)):eH pr w n₀ ann 1 (dictEpoch d part) (sh L life g dr tk os) n (sh L life g dr tk os):=by
 unfold dictEpoch;exact bJ (ax _) (n₁:=1) (n₂:=0) (kO (o:=dictOf es n) (yJ h)) c7
theorem wa(h:L[d]? =af (dictOf es n))(hk:∀e∈es,e.hash≠k):eH pr w n₀ ann 1 (dictFind d (.int k t) k) (sh L life g dr tk os) ae (sh L life g dr tk os):=by
 unfold dictFind;refine eJ _ (bJ (ax _) (n₁:=1) (n₂:=0) (ki h) ?_);dsimp only;refine (GK hk)▸ ?_;exact c7
theorem tR{e:DictEntry}(h:L[d]? =af (dictOf es n))(hd:n₀<=d)(hz:es.length<1000000):
  eH pr w n₀ ann 3 (updateDictKeys d (·.push e) part) (sh L life g dr tk os) () (sh (L.set d (dictOf (es++ [e]) (n+1))) life g dr tk os):=by
 unfold updateDictKeys;have e1:(hp L life).update d (z3 (·.push e))=hp (L.set d (dictOf (es++ [e]) (n+1))) life:=by
  refine (JV _ h).trans ?_;congr 2;show (Obj.mk _ _ (.dict (es.toArray.push e) (n+1)) _)=_;rw [yl]
 have hlt:d<L.length:=by
  rcases ew d L.length with q|q
  ·exact q
  ·rw [eG q] at h;injection h
 have g2:(L.set d (dictOf (es++ [e]) (n+1)))[d]? =af (dictOf (es++ [e]) (n+1)):=by
  exact (dX hlt)
 refine bJ (by decide) (n₁:=1) (n₂:=2) (kO (o:=dictOf es n) (yJ h)) ?_;dsimp only;refine bJ (ak rfl) (n₁:=1) (n₂:=1) (s₁:=sh (L.set d (dictOf (es++ [e]) (n+1))) life g dr tk os) (a:=()) ?_ ?_
 ·have:=zV (pr:=pr) (w:=w) (n₀:=n₀) (ann:=ann) (s:=sh L life g dr tk os) (f:=z3 (·.push e)) (part:=part) (o:=dictOf es n) (yJ h) hd;dsimp only at this;rw [e1] at this;exact this
 ·unfold lookBehind;refine bJ (ax _) (n₁:=1) (n₂:=0) (kO (o:=dictOf (es++ [e]) (n+1)) (yJ g2)) ?_;have:(dictOf (es++ [e]) (n+1)).data.pastItsLine=ae:=by
   show (if _ then _ else _)=ae;rw [if_neg];simp [sizeLine];exact qi (bS hz) rfl
  refine this▸ ?_;exact c7
theorem De(h:L[d]? =af (dictOf es n))(hk:∀e∈es,e.hash≠k)(hd:n₀<=d)(hz:es.length<1000000):
  eH pr w n₀ ann 4 (dictPut d k (.int k t) v) (sh L life g dr tk os) () (sh (L.set d (dictOf (es++ [⟨k,.int k t,v⟩]) (n+1))) life g dr tk os):=by
 unfold dictPut;exact bJ (by decide) (n₁:=1) (n₂:=3) (wa h hk) (tR h hd hz)
theorem xt(h0:0<=k)(h1:k<2305843009213693951)(h:L[d]? =af (dictOf es n))(hk:∀e∈es,e.hash≠k)(hd:n₀<=d)(hz:es.length<1000000):
  eH pr w n₀ ann 10 (dictSet d (.int k t) v) (sh L life g dr tk os) () (sh (L.set d (dictOf (es++ [⟨k,.int k t,v⟩]) (n+1))) life g dr (tk+1) os):=by
 unfold dictSet;refine eJ _ (bJ (by decide) (n₁:=5) (n₂:=5) (JU h0 h1) ?_);unfold dictSetHashed;refine eJ _ (bJ (by decide) (n₁:=1) (n₂:=4) (wa h hk) ?_);exact bJ (by decide) (n₁:=1) (n₂:=3) Cz (tR h hd hz)
end
section
variable{n₀:Nat}{ann:Option ay}{L:List Obj}{life:Life}{g:Array nK}{dr:Drawn}{os:gO}{d:bk}{es:List DictEntry}
variable{γ:Type}{n₁ n₂:Nat}{s₁ s_2:aM}{b b' b'':β}
theorem lI{f:γ->β->Sem (ForInStep β)}:eH pr w n₀ ann 0 (forIn ([]:List γ) b f) s b s:=c7
theorem jq{x:γ}{xs:List γ}{f:γ->β->Sem (ForInStep β)}(hn:n₁+n₂<=n)(h:eH pr w n₀ ann n₁ (f x b) s (.yield b') s₁)(h':eH pr w n₀ ann n₂ (forIn xs b' f) s₁ b'' s_2):
  eH pr w n₀ ann n (forIn (x::xs) b f) s b'' s_2:=by
 rw [lq];exact bJ hn h h'
noncomputable def vS(pos:Pos)(v:Str):Sem ay:=do let x←mkText v;lj pos;aA x
noncomputable def pairsOf(pos:Pos)(ps:List (Int × Str)):List (Sem ay × Sem ay):=ps.map λx=>(mkInt x.1,vS pos x.2)
noncomputable def ents:List (Int × Str)->Nat->List DictEntry
 | [],_=>[]
 |x::r,t=>⟨x.1,.int x.1 t,.str x.2 (t+1)⟩::ents r (t+3)
theorem jW:∀(ps:List (Int × Str)) (t:Nat),(ents ps t).length=ps.length
 | [],_=>rfl
 |_::r,t=>by simp [ents,jW r]
theorem rJ:∀(ps:List (Int × Str)) (t:Nat),(ents ps t).map (·.hash)=ps.map (·.1)
 | [],_=>rfl
 |_::r,t=>by simp [ents,rJ r]
theorem Iw{v:Str}:eH pr w n₀ ann 2 (vS pos v) s (.str v s.toks) {s with toks:=s.toks+1}:=by
 unfold vS;exact bJ (ak rfl) (n₁:=1) (n₂:=1) EH (bJ (ax _) (n₁:=1) (n₂:=0) sQ c7)
abbrev tS(k:Int):Prop:=0<=k/\k<2305843009213693951
theorem oO{L:List α}{d:Nat}{x:α}(h:L[d]? =af x):d<L.length:=by
 rcases ew d L.length with q|q
 ·exact q
 ·rw [eG q] at h;injection h
theorem uw:∀{L:List α}{d:Nat}{x:α},L[d]? =af x->L.set d x=L
 | [],d,x,h=>by rfl
 |y::L,0,x,h=>by simp at h;subst h;rfl
 |y::L,d+1,x,h=>by simp only [w5];exact congrArg _ (uw (by simpa using h))
theorem Df(hd:n₀<=d):∀(ps:List (Int × Str)) (L:List Obj) (es:List DictEntry) (n tk:Nat),L[d]? =af (dictOf es n)->(∀x∈ps,tS x.1)->((es.map (·.hash))++ps.map (·.1)).Nodup->es.length+ps.length<1000000->
  eH pr w n₀ ann (13*ps.length) (forIn (pairsOf pos ps) fW λx __s=>match x with
      |(k,v)=>do
       let kv←k
       let vv←holding [kv] v
       holding [kv,vv] (dictSet d kv vv)
       pure (dE fW)) (sh L life g dr tk os) fW (sh (L.set d (dictOf (es++ents ps tk) (n+ps.length))) life g dr (tk+3*ps.length) os):=by
 intro Ij;induction Ij with
 |nil=>
  intro L es n tk hL _ _ _;have:L.set d (dictOf (es++ents [] tk) (n+0))=L:=by
   simp only [ents,bB,lS];exact uw hL
  simp only [gF,ym,lS] at this ⊢;rw [this];exact lI
 |cons x r ih'=>
  intro L es n tk hL ok nd hz;obtain ⟨k,v⟩:=x;have hk:=ok (k,v) (fm ..);have hne:∀e∈es,e.hash≠k:=λe he q=>by
   rw [bo] at nd;exact nd.2.2 e.hash (og he) k (by exact fm) q
  have hlt:=oO hL;have ih:=ih' (L.set d (dictOf (es++ [⟨k,.int k tk,.str v (tk+1)⟩]) (n+1))) (es++ [⟨k,.int k tk,.str v (tk+1)⟩]) (n+1) (tk+3)
   (by exact (dX hlt)) (λx hx=>ok x (i8 _ hx)) (by simpa using nd) (by simp at hz ⊢;exact Vj hz)
  rw [oD,aQ,show n+1+r.length=n+((k,v)::r).length by simp;exact aN _ _ _,show tk+3+3*r.length=tk+3*((k,v)::r).length by simp;exact aN _ _ _,show [⟨k,.int k tk,.str v (tk+1)⟩]++ents r (tk+3)=ents ((k,v)::r) tk from rfl] at ih;refine jq (by simp;exact ar (cF _ _)) (n₁:=13) (n₂:=13*r.length) (b':=fW) (s₁:=sh (L.set d (dictOf (es++ [(⟨k,.int k tk,.str v (tk+1)⟩:DictEntry)]) (n+1))) life g dr (tk+3) os) ?_ ih;dsimp only;refine bJ (by decide) (n₁:=1) (n₂:=12) (wG (i:=k)) ?_;refine bJ (by decide) (n₁:=2) (n₂:=10) (eJ _ (Iw (pos:=pos) (v:=v))) ?_;refine bJ (ax _) (n₁:=10) (n₂:=0) (a:=()) (eJ _ (xt (t:=tk) (v:=.str v (tk+1)) hk.1 hk.2 hL hne hd (by simp at hz;exact aW (aF _ _) hz))) ?_;exact c7
theorem xv{ps:List (Int × Str)}(UP:15<ps.length)(hd:n₀<=L.length)(ok:∀x∈ps,tS x.1)(nd:(ps.map (·.1)).Nodup)(hz:ps.length<1000000):
  eH pr w n₀ ann (13*ps.length+2) (vP (pairsOf pos ps)) (sh L life g dr tk os) L.length (sh (L++ [dictOf (ents ps tk) ps.length]) life g dr (tk+3*ps.length) os):=by
 dsimp only [vP];have e:({cls:=gG "dict",data:=Data.dict #[]}:Obj)=dictOf [] 0:=rfl;have al:=As (pr:=pr) (w:=w) (n₀:=n₀) (ann:=ann) (s:=sh L life g dr tk os) (o:=dictOf [] 0);dsimp only at al;rw [Iv,gB] at al;refine e▸ ?_;refine bJ (ar (cF _ _)) (n₁:=1) (n₂:=13*ps.length+1) al ?_;have UQ:(L++ [dictOf [] 0])[L.length]? =af (dictOf [] 0):=by simp
 have lp:=Df (pos:=pos) (pr:=pr) (w:=w) (ann:=ann) (life:=life) (g:=g) (dr:=dr) (os:=os) hd ps _ [] 0 tk UQ ok (by simpa using nd) (by simpa using hz);rw [show (L++ [dictOf [] 0]).set L.length (dictOf ([]++ents ps tk) (0+ps.length))=L++ [dictOf (ents ps tk) ps.length] by simp] at lp;refine bJ (ax _) (n₁:=13*ps.length+1) (n₂:=0) (a:=()) (eJ _ ?_) c7;rw [if_neg (by unfold pairsOf;rw [aH];exact tu.mpr UP)];exact bJ (ar (cF _ _)) (n₁:=1) (n₂:=13*ps.length) Cz (bJ (ax _) (n₁:=13*ps.length) (n₂:=0) lp c7)
theorem yK:tw (.type "dict") "__iter__" =aA (af (.builtin "dict.__iter__")):=by kernel_rfl
theorem LG:r7 (.type "dict") (.type "dict")=aA ao:=by kernel_rfl
theorem zx(h:L[a]? =af (dictOf es n)):eH pr w n₀ ann 1 (typeOf (.ref a)) (sh L life g dr tk os) (.type "dict") (sh L life g dr tk os):=by
 show eH pr w n₀ ann 1 (do return (←loadPart a (af headPart)).cls) _ _ _;exact bJ (ax _) (n₁:=1) (n₂:=0) (kO (o:=dictOf es n) (yJ h)) c7
abbrev intKeyed(e:DictEntry):Prop:=∃k t v,e=⟨k,.int k t,v⟩
theorem Av{tY:List DictEntry}{sn:Nat}(had:a≠d)(hd:n₀<=d)(ik:∀e∈tY,intKeyed e):
  ∀(m j:Nat) (L:List Obj) (qj:List DictEntry) (mn:Nat),j+m=tY.length->L[a]? =af (dictOf tY sn)->L[d]? =af (dictOf qj mn)->((qj.map (·.hash))++(tY.drop j).map (·.hash)).Nodup->qj.length+m<1000000->
  eH pr w n₀ ann (6*m) (forIn (cb j m) fW λi __s=>do
       let __do_lift←zR a
       match __do_lift[i]? with
        |some e=>do
         holding [e.key,e.val]
           (have __do_jp:=λ__r=>dictPut d e.hash e.key e.val;
           if bf=ao then do
            let __do_lift←dictFind d e.key e.hash
            if __do_lift.isSome=ao then do
              rule "dict.merge.duplicate-key"
              let __do_lift←newExc (gG "KeyError") [e.key]
              let __r←raiseNew __do_lift
              __do_jp __r
             else __do_jp ()
           else __do_jp ())
         let __do_lift←dictEpoch a
         if (__do_lift != sn)=ao then do
           unsupported "dict.changed-during-merge"
           pure (dE fW)
          else aA (dE fW)
        |x=>do
         unsupported "dict.changed-during-merge"
         pure (dE fW)) (sh L life g dr tk os) fW (sh (L.set d (dictOf (qj++tY.drop j) (mn+m))) life g dr tk os):=by
 intro Ij;induction Ij with
 |zero=>
  intro j L qj mn hj hA hM nd hz;have e0:tY.drop j= []:=List.drop_eq_nil_of_le (by exact ar hj.symm);have:L.set d (dictOf (qj++tY.drop j) (mn+0))=L:=by
   rw [e0,bB,lS];exact uw hM
  rw [this];exact lI
 |succ m ih'=>
  intro j L qj mn hj hA hM nd hz;have hjl:j<tY.length:=Vk hj;refine sO (ik tY[j] (rZ hjl)) λk t v he=>?_;have Sj:tY.drop j=⟨k,.int k t,v⟩::tY.drop (j+1):=by refine (he).symm▸ ?_;exact fQ hjl
  rw [Sj] at nd;have hne:∀e∈qj,e.hash≠k:=λe h q=>by
   rw [bo] at nd;exact nd.2.2 e.hash (og h) k (by exact fm) q
  have hlt:=oO hM;have hA':(L.set d (dictOf (qj++ [⟨k,.int k t,v⟩]) (mn+1)))[a]? =af (dictOf tY sn):=by
   refine (bH (yn had)).trans ?_;exact hA
  have ih:=ih' (j+1) (L.set d (dictOf (qj++ [⟨k,.int k t,v⟩]) (mn+1))) (qj++ [⟨k,.int k t,v⟩]) (mn+1) ((aN _ _ _).trans hj) hA'
   (by exact (dX hlt)) (by simpa using nd) (by simp;exact Vj hz)
  rw [oD,aQ,show mn+1+m=mn+(m+1) by exact aN _ _ _] at ih;rw [Sj,ku];refine jq (ar (cF _ _)) (n₁:=6) (n₂:=6*m) (b':=fW) (s₁:=sh (L.set d (dictOf (qj++ [⟨k,.int k t,v⟩]) (mn+1))) life g dr tk os) ?_ ih;refine bJ (by decide) (n₁:=1) (n₂:=5) (ki hA) ?_;rw [mz,di hjl,he];dsimp only;refine bJ (ak rfl) (n₁:=4) (n₂:=1) (a:=()) (s₁:=sh (L.set d (dictOf (qj++ [⟨k,.int k t,v⟩]) (mn+1))) life g dr tk os) (eJ _ ?_) ?_
  ·exact De hM hne hd (by exact aW (aF _ _) hz)
  ·refine bJ (ax _) (n₁:=1) (n₂:=0) (ur hA') ?_;rw [if_neg (by simp)];exact c7
theorem GN{tY qj:List DictEntry}{sn mn:Nat}(had:a≠d)(ha1:(a==sysModules)=bf)(hd:n₀<=d)(ik:∀e∈tY,intKeyed e)(hA:L[a]? =af (dictOf tY sn))(hM:L[d]? =af (dictOf qj mn))
  (hne:qj≠ []) (nd:((qj.map (·.hash))++tY.map (·.hash)).Nodup) (hz:qj.length+tY.length<1000000):
  eH pr w n₀ ann (6*tY.length+5) (yo d (.ref a) bf) (sh L life g dr tk os) () (sh (L.set d (dictOf (qj++tY) (mn+tY.length))) life g dr tk os):=by
 unfold yo;refine bJ (ar (cF _ _)) (n₁:=1) (n₂:=6*tY.length+4) (a:=true) (s₁:=sh L life g dr tk os) ?_ ?_
 ·unfold isInstance;refine bJ (ax _) (n₁:=1) (n₂:=0) (zx hA) ?_;refine LG▸ ?_;exact c7
 dsimp only;refine (if_pos rfl)▸ ?_;refine bJ (ar (cF _ _)) (n₁:=1) (n₂:=6*tY.length+3) (a:=af (.builtin "dict.__iter__")) (s₁:=sh L life g dr tk os) ?_ ?_
 ·unfold specialOf;refine bJ (ax _) (n₁:=1) (n₂:=0) (zx hA) ?_;refine yK▸ ?_;exact c7
 refine bJ (ar (fH _)) (n₁:=0) (n₂:=6*tY.length+3) (a:=true) (s₁:=sh L life g dr tk os) (by
  have e:((af (rx "dict.__iter__"):Option ay)==af (rx "dict.__iter__"))=ao:=by decide
  rw [e];exact c7) ?_
 dsimp only;rw [ha1];rw [if_neg (by decide)];refine bJ (ar (cF _ _)) (n₁:=1) (n₂:=6*tY.length+2) (ki hM) ?_;rw [if_neg (by induction qj using aC with|nil=>exact absurd rfl hne|cons x r=>exact iK rfl)];refine bJ (ar (cF _ _)) (n₁:=1) (n₂:=6*tY.length+1) (ki hA) ?_;refine bJ (ar (cF _ _)) (n₁:=1) (n₂:=6*tY.length) (ur hA) ?_;rw [gB,vc];have lp:=Av (pr:=pr) (w:=w) (ann:=ann) (life:=life) (g:=g) (dr:=dr) (os:=os) (tk:=tk) had hd ik tY.length 0 L qj mn (by exact cF _ _) hA hM (by simpa using nd) hz;rw [pQ] at lp;exact bJ (ax _) (n₁:=6*tY.length) (n₂:=0) lp c7
end
section
variable{n₀:Nat}{ann:Option ay}{L:List Obj}{life:Life}{g:Array nK}{dr:Drawn}{os:gO}{d:bk}{es:List DictEntry}
noncomputable def ents2:List (Int × Str)->Nat->List DictEntry
 | [],_=>[]
 |x::r,t=>⟨x.1,.int x.1 t,.str x.2 (t+1)⟩::ents2 r (t+2)
noncomputable def vals2:List (Int × Str)->Nat->List (ay × ay)
 | [],_=>[]
 |x::r,t=>(.int x.1 t,.str x.2 (t+1))::vals2 r (t+2)
theorem xw:∀(ps:List (Int × Str)) (t:Nat),(ents2 ps t).length=ps.length
 | [],_=>rfl
 |_::r,t=>by simp [ents2,xw r]
theorem Aw:∀(ps:List (Int × Str)) (t:Nat),(ents2 ps t).map (·.hash)=ps.map (·.1)
 | [],_=>rfl
 |_::r,t=>by simp [ents2,Aw r]
theorem ux:∀(ps:List (Int × Str)) (tk:Nat),eH pr w n₀ ann (3*ps.length) (evalPairs (pairsOf pos ps)) (sh L life g dr tk os) (vals2 ps tk) (sh L life g dr (tk+2*ps.length) os)
 | [],tk=>c7
 |x::r,tk=>by
  show eH pr w n₀ ann (3*(x::r).length) (evalPairs ((mkInt x.1,vS pos x.2)::pairsOf pos r)) _ _ _;dsimp only [evalPairs];refine bJ (by simp;exact ar (cF _ _)) (n₁:=1) (n₂:=3*r.length+2) (wG (i:=x.1)) ?_;refine bJ (ar (cF _ _)) (n₁:=2) (n₂:=3*r.length) (eJ _ (Iw (pos:=pos) (v:=x.2))) ?_;have ih:=ux r (tk+2);rw [show tk+2+2*r.length=tk+2*(x::r).length by simp;exact aN _ _ _] at ih;exact bJ (ax _) (n₁:=3*r.length) (n₂:=0) (eJ _ ih) c7
theorem uy(hd:n₀<=d):∀(ps:List (Int × Str)) (t:Nat) (L:List Obj) (es:List DictEntry) (n tk:Nat),L[d]? =af (dictOf es n)->(∀x∈ps,tS x.1)->((es.map (·.hash))++ps.map (·.1)).Nodup->es.length+ps.length<1000000->
  eH pr w n₀ ann (10*ps.length) (forIn (vals2 ps t) fW λx __s=>match x with
        |(k,v)=>do
         dictSet d k v
         pure (dE fW)) (sh L life g dr tk os) fW (sh (L.set d (dictOf (es++ents2 ps t) (n+ps.length))) life g dr (tk+ps.length) os)
 | [],t,L,es,n,tk,hL,_,_,_=>by
  have:L.set d (dictOf (es++ents2 [] t) (n+0))=L:=by
   simp only [ents2,bB,lS];exact uw hL
  simp only [gF,ym,lS] at this ⊢;rw [this];exact lI
 |x::r,t,L,es,n,tk,hL,ok,nd,hz=>by
  obtain ⟨k,v⟩:=x;have hk:=ok (k,v) (fm ..);have hne:∀e∈es,e.hash≠k:=λe he q=>by
   rw [bo] at nd;exact nd.2.2 e.hash (og he) k (by exact fm) q
  have hlt:=oO hL;have ih:=uy hd r (t+2) (L.set d (dictOf (es++ [⟨k,.int k t,.str v (t+1)⟩]) (n+1))) (es++ [⟨k,.int k t,.str v (t+1)⟩]) (n+1) (tk+1)
   (by exact (dX hlt)) (λx hx=>ok x (i8 _ hx)) (by simpa using nd) (by simp at hz ⊢;exact Vj hz)
  rw [oD,aQ,show n+1+r.length=n+((k,v)::r).length by simp;exact aN _ _ _,show tk+1+r.length=tk+((k,v)::r).length by simp;exact aN _ _ _,show [⟨k,.int k t,.str v (t+1)⟩]++ents2 r (t+2)=ents2 ((k,v)::r) t from rfl] at ih;refine jq (by simp;exact ar (cF _ _)) (n₁:=10) (n₂:=10*r.length) (b':=fW) (s₁:=sh (L.set d (dictOf (es++ [(⟨k,.int k t,.str v (t+1)⟩:DictEntry)]) (n+1))) life g dr (tk+1) os) ?_ ih;dsimp only;exact bJ (ax _) (n₁:=10) (n₂:=0) (a:=()) (xt (t:=t) (v:=.str v (t+1)) hk.1 hk.2 hL hne hd (by simp at hz;exact aW (aF _ _) hz)) c7
theorem B1{ps:List (Int × Str)}(UP:ps.length<=15)(hd:n₀<=L.length)(ok:∀x∈ps,tS x.1)(nd:(ps.map (·.1)).Nodup):
  eH pr w n₀ ann (13*ps.length+1) (vP (pairsOf pos ps)) (sh L life g dr tk os) L.length (sh (L++ [dictOf (ents2 ps tk) ps.length]) life g dr (tk+3*ps.length) os):=by
 dsimp only [vP];have e:({cls:=gG "dict",data:=Data.dict #[]}:Obj)=dictOf [] 0:=rfl;have al:=As (pr:=pr) (w:=w) (n₀:=n₀) (ann:=ann) (s:=sh L life g dr tk os) (o:=dictOf [] 0);dsimp only at al;rw [Iv,gB] at al;refine e▸ ?_;refine bJ (ar (cF _ _)) (n₁:=1) (n₂:=13*ps.length) al ?_;have UQ:(L++ [dictOf [] 0])[L.length]? =af (dictOf [] 0):=by simp
 have lp:=uy (pr:=pr) (w:=w) (ann:=ann) (life:=life) (g:=g) (dr:=dr) (os:=os) hd ps tk _ [] 0 (tk+2*ps.length) UQ ok (by simpa using nd) (by simp;exact Iu UP rfl);rw [show (L++ [dictOf [] 0]).set L.length (dictOf ([]++ents2 ps tk) (0+ps.length))=L++ [dictOf (ents2 ps tk) ps.length] by simp,show tk+2*ps.length+ps.length=tk+3*ps.length from (dC _ _ _).trans (congrArg _ (Nat.succ_mul 2 _).symm)] at lp;refine bJ (ax _) (n₁:=13*ps.length) (n₂:=0) (a:=()) (eJ _ ?_) c7;rw [if_pos (by dsimp only [pairsOf];rw [aH];exact UP)];refine bJ (ar (Nat.add_mul 3 10 _).symm) (n₁:=3*ps.length) (n₂:=10*ps.length) (ux ps tk) (eJ _ ?_);exact bJ (ax _) (n₁:=10*ps.length) (n₂:=0) lp c7
theorem GO:∀(ps:List (Int × Str)) (t:Nat),∀e∈ents ps t,intKeyed e:=by
 intro ps;induction ps with
 |nil=>intro t e he;obtain ⟨⟩:=he
 |cons x r ih=>
  intro t e he;rcases jJ he with rfl|he
  ·exact ⟨_,_,_,rfl⟩
  ·exact ih _ e he
theorem EI:∀(ps:List (Int × Str)) (t:Nat),∀e∈ents2 ps t,intKeyed e:=by
 intro ps;induction ps with
 |nil=>intro t e he;obtain ⟨⟩:=he
 |cons x r ih=>
  intro t e he;rcases jJ he with rfl|he
  ·exact ⟨_,_,_,rfl⟩
  ·exact ih _ e he
noncomputable def wH(run:List (Sem ay × Sem ay))(main:Option bk):Sem (Option bk):=
  if run.isEmpty=ao then aA main
  else
   match main with
   |none=>do
    let __do_lift←vP run
    pure (af __do_lift)
   |some d=>do
    let sub←holding [cC d] (vP run)
    (holding [cC d,cC sub] (yo d (cC sub) bf)).onRaise λx=>do
      let _←holding [cC d,x] (runValue (Code.builtin "proto.let_go" {}))
      pure ()
    pure (af d)
abbrev B3:=Option bk × List (Sem ay × Sem ay)
abbrev Itm:=Option (Sem ay) × Sem ay
structure Ym(F:Itm->B3->Sem (ForInStep B3)):Prop where
 at_:∀(k v:Sem ay) (main:Option bk) (run:List (Sem ay × Sem ay)),F (af k,v) (main,run)=
  if ((run++ [(k,v)]).length==17)=ao then (wH (run++ [(k,v)]) main>>=λm=>aA (dE (m,[]))) else aA (dE (main,run++ [(k,v)]))
theorem Dg(items:List Itm):∃F:Itm->B3->Sem (ForInStep B3),Ym F/\dictDisplay items=(forIn items ((ae,[]):B3) F>>=λx=>wH x.2 x.1>>=λr=>match r with
  |some d=>aA (cC d)
  |none=>newDict):=⟨_,⟨λ_ _ _ _=>rfl⟩,rfl⟩
def itemsOf(pos:Pos)(ps:List (Int × Str)):List Itm:=ps.map λx=>(af (mkInt x.1),vS pos x.2)
theorem EJ{ps:List (Int × Str)}(UP:15<ps.length)(hd:n₀<=L.length)(ok:∀x∈ps,tS x.1)(nd:(ps.map (·.1)).Nodup)(hz:ps.length<1000000):
  eH pr w n₀ ann (13*ps.length+2) (wH (pairsOf pos ps) ae) (sh L life g dr tk os) (af L.length) (sh (L++ [dictOf (ents ps tk) ps.length]) life g dr (tk+3*ps.length) os):=by
 dsimp only [wH];rw [if_neg (by dsimp only [pairsOf];induction ps using aC with|nil=>simp at UP|cons x r=>exact iK rfl)];exact bJ (ax _) (n₁:=13*ps.length+2) (n₂:=0) (xv UP hd ok nd hz) c7
theorem xy{L:List α}{d:Nat}{x y:α}(h:L[d]? =af x):(L++ [y])[d]? =af x:=by
 refine (aJ (oO h)).trans ?_;exact h
theorem Ax{ps:List (Int × Str)}{qj tY:List DictEntry}{mn m₁:Nat}(hps:ps≠ [])(hsub:eH pr w n₀ ann m₁ (vP (pairsOf pos ps)) (sh L life g dr tk os) L.length (sh (L++ [dictOf tY ps.length]) life g dr (tk+3*ps.length) os))
  (hl:tY.length=ps.length) (ik:∀e∈tY,intKeyed e) (hM:L[d]? =af (dictOf qj mn)) (hd:n₀<=d) (hL:11<=L.length) (hne:qj≠ []) (nd:((qj.map (·.hash))++tY.map (·.hash)).Nodup) (hz:qj.length+ps.length<1000000):
  eH pr w n₀ ann (m₁+6*ps.length+5) (wH (pairsOf pos ps) (af d)) (sh L life g dr tk os) (af d) (sh ((L.set d (dictOf (qj++tY) (mn+ps.length)))++ [dictOf tY ps.length]) life g dr (tk+3*ps.length) os):=by
 have hlt:=oO hM;dsimp only [wH];rw [if_neg (by dsimp only [pairsOf];induction ps using aC with|nil=>exact absurd rfl hps|cons x r=>exact iK rfl)];refine bJ (ax _) (n₁:=m₁) (n₂:=6*ps.length+5) (eJ _ hsub) ?_;have mg:=GN (pr:=pr) (w:=w) (n₀:=n₀) (ann:=ann) (life:=life) (g:=g) (dr:=dr) (os:=os) (tk:=tk+3*ps.length) (L:=L++ [dictOf tY ps.length]) (a:=L.length) (d:=d) (tY:=tY) (sn:=ps.length) (qj:=qj) (mn:=mn) (eM hlt) (by
   show (L.length==1)=bf;have:L.length≠1:=eM (ai (ak rfl) hL);simpa using this) hd ik (by simp) (xy hM) hne nd (hl▸hz)
 rw [hl,ve _ _ hlt] at mg;exact bJ (ax _) (n₁:=6*ps.length+5) (n₂:=0) (a:=()) (Dd (eJ _ mg)) c7
theorem Ay{F:Itm->B3->Sem (ForInStep B3)}(hF:Ym F){main:Option bk}{rest:List Itm}{b:B3}:∀(ps run:List (Int × Str)),run.length+ps.length<17->
  eH pr w n₀ ann n (forIn rest ((main,pairsOf pos (run++ps)):B3) F) s b s'->eH pr w n₀ ann n (forIn (itemsOf pos ps++rest) ((main,pairsOf pos run):B3) F) s b s'
 | [],run,_,h=>by rw [bB] at h;exact h
 |x::r,run,hl,h=>by
  have e:pairsOf pos run++ [(mkInt x.1,vS pos x.2)]=pairsOf pos (run++ [x]):=by simp [pairsOf]
  refine jq (ar (fH _)) (n₁:=0) (n₂:=n) (b':=(main,pairsOf pos (run++ [x]))) (s₁:=s) ?_ (Ay hF r (run++ [x]) (by simp at hl ⊢;exact Vj hl) (by rw [aQ];exact h));rw [hF.at_,e,if_neg (by simp [pairsOf] at hl ⊢;exact bP (RE (dF hl)))];exact c7
theorem Az{F:Itm->B3->Sem (ForInStep B3)}(hF:Ym F){main m':Option bk}{rest:List Itm}{b:B3}{s₁:aM}{n₁ n₂:Nat}(hn:n₁+n₂<=n)(c:List (Int × Str))(x:Int × Str)(hc:c.length=16)
  (hfl:eH pr w n₀ ann n₁ (wH (pairsOf pos (c++ [x])) main) s m' s₁) (h:eH pr w n₀ ann n₂ (forIn rest ((m',[]):B3) F) s₁ b s'):
  eH pr w n₀ ann n (forIn (itemsOf pos (c++ [x])++rest) ((main,[]):B3) F) s b s':=by
 have e:itemsOf pos (c++ [x])++rest=itemsOf pos c++((af (mkInt x.1),vS pos x.2)::rest):=by simp [itemsOf]
 refine e▸ ?_;refine Ay (main:=main) hF c [] (by simp;exact Iu (ar hc) rfl) ?_;have e2:pairsOf pos ([]++c)++ [(mkInt x.1,vS pos x.2)]=pairsOf pos (c++ [x]):=by simp [pairsOf]
 refine jq hn (n₁:=n₁) (n₂:=n₂) (b':=(m',[])) (s₁:=s₁) ?_ h;rw [hF.at_,e2,if_pos (by simp [pairsOf,hc])];exact bJ (ax _) (n₁:=n₁) (n₂:=0) hfl c7
def subsOf:List (List (Int × Str))->Nat->List Obj
 | [],_=>[]
 |c::r,t=>dictOf (ents c t) 17::subsOf r (t+51)
theorem uz:∀(a b:List (Int × Str)) (t:Nat),ents (a++b) t=ents a t++ents b (t+3*a.length)
 | [],b,t=>by simp [ents]
 |x::r,b,t=>by
  simp only [e9,ents,uz r b,aU];rw [show t+3+3*r.length=t+3*(r.length+1) by exact aN _ _ _]
theorem EK{F:Itm->B3->Sem (ForInStep B3)}(hF:Ym F)(hd:n₀<=d)(Rp:(11:Nat)<=d){b:B3}{n₂:Nat}{rest:List Itm}:∀(cs:List (List (Int × Str))) (L:List Obj) (qj:List DictEntry) (mn tk n:Nat),(∀c∈cs,c.length=17)->L[d]? =af (dictOf qj mn)->qj≠ []->
  (∀x∈cs.flatten,tS x.1)->((qj.map (·.hash))++cs.flatten.map (·.1)).Nodup->qj.length+17*cs.length<1000000->340*cs.length+n₂<=n->
  eH pr w n₀ ann n₂ (forIn rest ((af d,[]):B3) F) (sh (L.set d (dictOf (qj++ents cs.flatten tk) (mn+17*cs.length))++subsOf cs tk) life g dr (tk+51*cs.length) os) b s'->
  eH pr w n₀ ann n (forIn (itemsOf pos cs.flatten++rest) ((af d,[]):B3) F) (sh L life g dr tk os) b s':=by
 intro Ij;induction Ij with
 |nil=>
  intro L qj mn tk n _ hM _ _ _ _ hn h;simp only [List.flatten_nil,ents,bB,gF,ym,lS,subsOf] at h;rw [uw hM] at h;exact rI h (by simpa using hn)
 |cons c r ih'=>
  intro L qj mn tk n hc hM hne ok nd hz hn h;have Cn:=hc c (fm ..);obtain ⟨c',x,rfl⟩:∃c' x,c=c'++ [x]:=⟨c.dropLast,c.getLast (by intro e;rw [e] at Cn;trivial),(nW _).symm⟩;have hlt:=oO hM;rw [yp] at ok nd h ⊢;have Ze:∀y∈c'++ [x],tS y.1:=λy hy=>ok y (cf _ hy);rw [cw] at nd;have ndc:((c'++ [x]).map (·.1)).Nodup:=(bo.mp (bo.mp nd).2.1).1;have ndm:((qj.map (·.hash))++((ents (c'++ [x]) tk).map (·.hash))).Nodup:=by
   rw [rJ];rw [←aQ] at nd;exact (bo.mp nd).1
  have hsub:=xv (pr:=pr) (w:=w) (n₀:=n₀) (ann:=ann) (pos:=pos) (L:=L) (life:=life) (g:=g) (dr:=dr) (tk:=tk) (os:=os) (ps:=c'++ [x]) (tgq Cn rfl) (by exact bS (aW hd hlt)) Ze ndc (Iu (ar Cn) rfl);have fl:=Ax (d:=d) (qj:=qj) (mn:=mn) (by simp) hsub (jW _ _) (GO _ _) hM hd (by exact aD Rp hlt) hne ndm (by simp at hz;exact aW (bE (ai (ar Cn) (dH _ _)) _) hz);rw [Cn] at fl;have hM':(L.set d (dictOf (qj++ents (c'++ [x]) tk) (mn+17))++ [dictOf (ents (c'++ [x]) tk) 17])[d]? =af (dictOf (qj++ents (c'++ [x]) tk) (mn+17)):=by
   refine xy ?_;exact (dX hlt)
  have eI:itemsOf pos (c'++ [x]++r.flatten)++rest=itemsOf pos (c'++ [x])++(itemsOf pos r.flatten++rest):=by simp [itemsOf]
  refine eI▸ ?_;refine Az hF (n₁:=340) (n₂:=340*r.length+n₂) (by simp at hn;exact ai (ar ((dC _ _ _).symm.trans (congrArg (· +_) (cF _ _)))) hn) c' x (by simp at Cn;exact Cn) (rI fl (by exact dH _ _)) ?_;refine ih' _ _ _ _ _ (λy hy=>hc y (i8 _ hy)) hM' (by simp [hne]) (λy hy=>ok y (cI _ hy)) (by
    rw [cw,rJ,aQ];exact nd) (by simp [jW] at Cn hz ⊢;rw [Cn];exact aW (ar (aN _ 17 _)) hz) (ax _) ?_
  have e1:qj++ents (c'++ [x]) tk++ents r.flatten (tk+3*17)=qj++ents (c'++ [x]++r.flatten) tk:=by
   rw [aQ,uz (c'++ [x]) r.flatten tk,Cn]
  rw [ve _ _ (by rw [dI];exact hlt),oD,e1,aQ,show mn+17+17*r.length=mn+17*(r.length+1) by exact aN _ _ _,show tk+3*17+51*r.length=tk+51*(r.length+1) by exact aN _ _ _];simpa [subsOf] using h
end
section
variable{n₀:Nat}{ann:Option ay}{L:List Obj}{life:Life}{g:Array nK}{dr:Drawn}{os:gO}
theorem Dh(hd:n₀<=L.length)(Rp:11<=L.length)(c0 last:List (Int × Str))(cs:List (List (Int × Str)))(h0:c0.length=17)(hcs:∀c∈cs,c.length=17)(hl:last≠ [])(OC:last.length<=15)(hcl:cs.length<1000)
  (ok:∀x∈c0++cs.flatten++last,tS x.1) (nd:((c0++cs.flatten++last).map (·.1)).Nodup):
  eH pr w n₀ ann (340*(cs.length+2)) (dictDisplay (itemsOf pos (c0++cs.flatten++last))) (sh L life g dr tk os) (.ref L.length)
   (sh (L++dictOf (ents (c0++cs.flatten) tk++ents2 last (tk+51*(cs.length+1))) (17+17*cs.length+last.length)::(subsOf cs (tk+51)++ [dictOf (ents2 last (tk+51*(cs.length+1))) last.length])) life g dr (tk+51*(cs.length+1)+3*last.length) os):=by
 refine aR (Dg (itemsOf pos (c0++cs.flatten++last))) λF hF e=>?_;refine e▸ ?_;obtain ⟨c',x,rfl⟩:∃c' x,c0=c'++ [x]:=⟨c0.dropLast,c0.getLast (by intro e;rw [e] at h0;trivial),(nW _).symm⟩;have Zf:cs.flatten.length=17*cs.length:=by
  clear ok nd e hcl;induction cs with
  |nil=>rfl
  |cons c r ih=>rw [yp,aq,hcs c (fm ..),ih λy hy=>hcs y (i8 _ hy),aU];exact cF _ _
 have ok0:∀y∈c'++ [x],tS y.1:=λy hy=>ok y (cf _ (cf _ hy));have Ze:∀y∈cs.flatten,tS y.1:=λy hy=>ok y (cf _ (cI _ hy));have okl:∀y∈last,tS y.1:=λy hy=>ok y (cI _ hy);rw [cw,cw] at nd;have W6:=(bo.mp nd).1;have nd0:=(bo.mp W6).1;have ndl:=(bo.mp nd).2.1;have f0:=EJ (pr:=pr) (w:=w) (n₀:=n₀) (ann:=ann) (pos:=pos) (L:=L) (life:=life) (g:=g) (dr:=dr) (tk:=tk) (os:=os) (ps:=c'++ [x]) (tgq h0 rfl) hd ok0 nd0 (Iu (ar h0) rfl);rw [h0] at f0;have hM:(L++ [dictOf (ents (c'++ [x]) tk) 17])[L.length]? =af (dictOf (ents (c'++ [x]) tk) 17):=by simp
 let L_1:List Obj:=L++dictOf (ents (c'++ [x]) tk++ents cs.flatten (tk+51)) (17+17*cs.length)::subsOf cs (tk+51)
 have W7:(L++ [dictOf (ents (c'++ [x]) tk) 17]).set L.length (dictOf (ents (c'++ [x]) tk++ents cs.flatten (tk+51)) (17+17*cs.length))++subsOf cs (tk+51)=L_1:=by simp [L_1]
 have W8:L_1[L.length]? =af (dictOf (ents (c'++ [x]) tk++ents cs.flatten (tk+51)) (17+17*cs.length)):=by simp [L_1]
 have ee:ents (c'++ [x]) tk++ents cs.flatten (tk+51)=ents (c'++ [x]++cs.flatten) tk:=by
  rw [uz (c'++ [x]) cs.flatten tk,h0]
 refine bJ (ax _) (n₁:=340*(cs.length+1)) (n₂:=340) (a:=((af L.length,pairsOf pos last):B3)) (s₁:=sh L_1 life g dr (tk+51*(cs.length+1)) os) ?_ ?_
 ·have eI:itemsOf pos (c'++ [x]++cs.flatten++last)=itemsOf pos (c'++ [x])++(itemsOf pos cs.flatten++itemsOf pos last):=by simp [itemsOf]
  refine eI▸ ?_;refine Az hF (n₁:=340) (n₂:=340*cs.length) (ar (cF _ _)) c' x (by simp at h0;exact ib (ar h0) (ar h0.symm)) (rI f0 (by exact dH _ _)) ?_;refine EK hF hd Rp (n₂:=0) cs _ _ 17 _ _ hcs hM (by intro q;have:=congrArg vg q;rw [jW,h0] at this;trivial) Ze (by rw [rJ];exact W6) (by rw [jW];exact Iu (dW (ar h0) (df 17 (bS hcl))) rfl) (by exact ax _) ?_;rw [show tk+3*17=tk+51 by rfl,W7,show tk+51+51*cs.length=tk+51*(cs.length+1) by exact aN _ _ _];have:=Ay (pr:=pr) (w:=w) (n₀:=n₀) (ann:=ann) (pos:=pos) (n:=0) hF (main:=af L.length) (rest:=[]) (b:=(af L.length,pairsOf pos last)) (s:=sh L_1 life g dr (tk+51*(cs.length+1)) os) (s':=sh L_1 life g dr (tk+51*(cs.length+1)) os) last [] (by simp;exact Iu OC rfl) (by rw [dS];exact lI);rw [bB] at this;exact this
 ·have hlen:11<=L_1.length:=by simp [L_1];exact jg Rp
  have hsub:=B1 (pr:=pr) (w:=w) (n₀:=n₀) (ann:=ann) (pos:=pos) (L:=L_1) (life:=life) (g:=g) (dr:=dr) (tk:=tk+51*(cs.length+1)) (os:=os) OC (by simp [L_1];exact jg hd) okl ndl;have fl:=Ax (d:=L.length) (qj:=ents (c'++ [x]) tk++ents cs.flatten (tk+51)) (mn:=17+17*cs.length) hl hsub (xw _ _) (EI _ _) W8 hd hlen
   (by intro q;have:=congrArg vg q;rw [aq,jW,h0] at this;simp at this) (by
    rw [ee,rJ,Aw,cw];exact nd) (by rw [ee,jW,aq,h0,Zf];exact Iu (dW (bE (df 17 (bS hcl)) 17) OC) rfl)
  have eF:L_1.set L.length (dictOf (ents (c'++ [x]) tk++ents cs.flatten (tk+51)++ents2 last (tk+51*(cs.length+1))) (17+17*cs.length+last.length))++ [dictOf (ents2 last (tk+51*(cs.length+1))) last.length]=
    L++dictOf (ents (c'++ [x]++cs.flatten) tk++ents2 last (tk+51*(cs.length+1))) (17+17*cs.length+last.length)::(subsOf cs (tk+51)++ [dictOf (ents2 last (tk+51*(cs.length+1))) last.length]):=by
   rw [ee];simp [L_1]
  rw [eF] at fl;exact bJ (ax _) (n₁:=340) (n₂:=0) (rI fl (qi (cg (dW (cg (df 13 OC) 1) (df 6 OC)) 5) rfl)) c7
noncomputable def rising:List Int->Bool
 |a::b::r=>decide (a<b)&&rising (b::r)
 |_=>ao
theorem CA:∀(l:List Int) (a:Int),rising (a::l)=ao->∀x∈l,a<x
 |b::r,a,h,x,hx=>by
  simp only [rising,aS,decide_eq_true_eq] at h;rcases jJ hx with rfl|hx
  ·exact h.1
  ·exact yk h.1 (CA r b h.2 x hx)
theorem sR:∀l:List Int,rising l=ao->l.Nodup
 | [],_=>dz
 |a::r,h=>by
  refine bu.mpr ⟨λhm=>Int.lt_irrefl a (CA r a h a hm),sR r ?_⟩;induction r using aC with
  |nil=>rfl
  |cons b r'=>simp only [rising,aS] at h;exact h.2
end
set_option genCtorIdx false in
inductive V where
 |none
 |bool (b:Bool)
 |int (i:Int)
 |str (s:Str)
 |ref (i:Nat)
 |top (a:bk)
 |type (n:String)
 |bi (id:String)
 deriving Inhabited
open V renaming none->fX,bool->BS,int->bD,str->bc,ref->iu,top->qQ,type->pZ,bi->zp
noncomputable def V.ctorIdx(x:V):Nat:=V.casesOn x 0 (λ_=>1) (λ_=>2) (λ_=>3) (λ_=>4) (λ_=>5) (λ_=>6) (λ_=>7)
set_option genCtorIdx false in
inductive O where
 |list (xs:List V)
 |tuple (xs:List V)
 |dict (es:List (Str × V))
 |qt (es:List (Int × V))
 |set (xs:List Str)
 |B5 (xs:List Int)
 |inst (C:bk) (d:Nat)
 |ns (es:List (Str × V))
 |slots (C:bk) (d:Nat) (vs:List (Option V))
 |exc (C:bk) (args:Nat)
 |kP (l:Nat) (k:Nat)
 |dead
 |next (it:Nat)
 |range (a b c:Int)
 |values (d:Nat)
open O renaming list->cA,tuple->jk,dict->qf,kP->mh,next->xk,range->dB,values->vr
noncomputable def O.ctorIdx(x:O):Nat:=O.casesOn x (λ_=>0) (λ_=>1) (λ_=>2) (λ_=>3) (λ_=>4) (λ_=>5) (λ_ _=>6) (λ_=>7) (λ_ _ _=>8) (λ_ _=>9) (λ_ _=>10) 11 (λ_=>12) (λ_ _ _=>13) (λ_=>14)
abbrev eB:=List (Str × V)
structure eP where
 fr:eB
 os:List O
abbrev M(α:Type):=List Nat->eP->Option (α × eP)
noncomputable instance:Monad M where
 pure a:=λ_ s=>af (a,s)
 bind m f:=λz s=>match m z s with|some (a,s')=>f a z s'|none=>ae
noncomputable def fail:M α:=λ_ _=>ae
set_option genCtorIdx false in
inductive Fl where
 |next|brk|cont
 |ret (v:V)
 |exc (i:Nat)
open Fl renaming next->bp
noncomputable def Fl.ctorIdx(x:Fl):Nat:=Fl.casesOn x 0 1 2 (λ_=>3) (λ_=>4)
set_option genCtorIdx false in
inductive CR where
 |ret (v:V)
 |exc (i:Nat)
open CR renaming ret->EA
noncomputable def CR.ctorIdx(x:CR):Nat:=CR.casesOn x (λ_=>0) (λ_=>1)
structure Cx where
 K:r8
 aj:List (bk × O)
 call:V->List V->List O->List Nat->Option (CR × List O)
 fuel:Nat
 hd:Bool
 ie:List bk
set_option backward.match.sparseCases false in
noncomputable def kj:ay->Option V
 | .none=>af .none
 | .bool b=>af (.bool b)
 | .int i _=>af (.int i)
 | .str s _=>af (.str s)
 | .type n=>af (.type n)
 | .builtin i=>af (.bi i)
 | .ref a=>af (.top a)
 |_=>ae
noncomputable def putF:eB->Str->V->eB
 | [],x,v=>[(x,v)]
 |(y,u)::r,x,v=>if y=x then (y,v)::r else (y,u)::putF r x v
noncomputable def getF:eB->Str->Option V
 | [],_=>ae
 |(y,u)::r,x=>if y=x then af u else getF r x
noncomputable def lift(o:Option α):M α:=λ_ s=>o.map λa=>(a,s)
noncomputable def bw(x:Str):M V:=λ_ s=>(getF s.fr x).map λv=>(v,s)
set_option backward.match.sparseCases false in
noncomputable def setC(sc:Scope)(x:Str)(v:V):M Unit:=λ_ s=>match sc.names.lookup x with
 |some .local|some .cell=>af ((),{s with fr:=putF s.fr x v})
 |_=>ae
noncomputable def sizeOk:O->Bool
 | .list xs=>decide (xs.length<=1000000)
 | .tuple xs=>decide (xs.length<=1000000)
 | .dict xs=>decide (xs.length<=1000000)
 | .set xs=>decide (xs.length<4000)
 | .ns es=>decide (es.length<=1000)
 | .qt _=>bf
 | .B5 _=>bf
 |_=>ao
noncomputable def alloc(o:O):M V:=λ_ s=>if sizeOk o then af (.ref s.os.length,{s with os:=s.os++ [o]}) else ae
set_option backward.match.sparseCases false in
noncomputable def eu(c:Cx)(v:V):M O:=λ_ s=>match v with
 | .ref i=>(s.os[i]?).map λo=>(o,s)
 | .top a=>(c.aj.lookup a).map λo=>(o,s)
 |_=>ae
noncomputable def gZ(i:Nat)(o:O):M Unit:=λz s=>if i<s.os.length/\sizeOk o=ao/\i∉z then af ((),{s with os:=s.os.set i o}) else ae
section
set_option backward.match.sparseCases false
@[reducible] noncomputable def wb(o:Option β)(f:β->M α)(k:M α):M α:=match o with
 |some b=>f b
 |ae=>k
@[reducible] noncomputable def ff(o:Option β)(f:β->M α):M α:=wb o f fail
@[reducible] noncomputable def O.jX:O->Option (List V)
 | .list xs=>af xs
 |_=>ae
@[reducible] noncomputable def O.uA:O->Option (List V)
 | .tuple xs=>af xs
 |_=>ae
@[reducible] noncomputable def O.uB:O->Option (List (Str × V))
 | .dict xs=>af xs
 |_=>ae
@[reducible] noncomputable def O.LH:O->Option (List (Int × V))
 | .qt xs=>af xs
 |_=>ae
@[reducible] noncomputable def O.SM:O->Option (List Str)
 | .set xs=>af xs
 |_=>ae
@[reducible] noncomputable def O.RF:O->Option (List Int)
 | .B5 xs=>af xs
 |_=>ae
@[reducible] noncomputable def O.Vl:O->Option (List (Str × V))
 | .ns xs=>af xs
 |_=>ae
@[reducible] noncomputable def O.RG:O->Option (Nat)
 | .next xs=>af xs
 |_=>ae
@[reducible] noncomputable def O.Iy:O->Option (Nat)
 | .values xs=>af xs
 |_=>ae
@[reducible] noncomputable def O.Iz:O->Option (bk × Nat)
 | .inst a b=>af (a,b)
 |_=>ae
@[reducible] noncomputable def O.SN:O->Option (bk × Nat)
 | .exc a b=>af (a,b)
 |_=>ae
@[reducible] noncomputable def O.GP:O->Option (Nat × Nat)
 | .kP a b=>af (a,b)
 |_=>ae
@[reducible] noncomputable def O.LI:O->Option (Int × Int × Int)
 | .range a b c=>af (a,b,c)
 |_=>ae
@[reducible] noncomputable def O.GQ:O->Option (bk × Nat × List (Option V))
 | .slots a b c=>af (a,b,c)
 |_=>ae
@[reducible] noncomputable def V.mj:V->Option Int
 | .int x=>af x
 |_=>ae
@[reducible] noncomputable def V.jU:V->Option Str
 | .str x=>af x
 |_=>ae
@[reducible] noncomputable def V.nu:V->Option Nat
 | .ref x=>af x
 |_=>ae
@[reducible] noncomputable def V.LJ:V->Option bk
 | .top x=>af x
 |_=>ae
@[reducible] noncomputable def V.RH:V->Option String
 | .type x=>af x
 |_=>ae
@[reducible] noncomputable def V.biV:V->Option String
 | .bi x=>af x
 |_=>ae
@[reducible] noncomputable def V.RJ:V->Option Bool
 | .none=>af bf
 | .bool b=>af b
 |_=>ae
@[reducible] noncomputable def oV:List α->Option α
 | [x]=>af x
 |_=>ae
@[reducible] noncomputable def refOf:Option (Option ay)->Option bk
 |some (af (.ref p))=>af p
 |_=>ae
@[reducible] noncomputable def fdOf:Option Obj->Option kS
 |some ⟨_,_,.func fd,_⟩=>af fd
 |_=>ae
@[reducible] noncomputable def Pe:Option Obj->Option oS
 |some ⟨_,_,.cls cd,_⟩=>af cd
 |_=>ae
@[reducible] noncomputable def GR:List α->Option Unit
 | []=>af ()
 |_=>ae
end
noncomputable def z6(x:Str):Bool:=x==ah "__debug__" ||x==ah "__name__" ||x==ah "__classdict__"
set_option backward.match.sparseCases false in
noncomputable def zy(c:Cx)(sc:Scope)(up:eB)(x:Str):M V:=if z6 x then fail else match sc.names.lookup x with
 |some .local=>bw x
 |some .cell=>bw x
 |some .free=>lift (getF up x)
 |some .globalImplicit=>match nsIn c.K gu x with
  |some (af v)=>lift (kj v)
  |some ae=>lift ((tA x).bind kj)
  |ae=>fail
 |_=>fail
set_option backward.match.sparseCases false in
noncomputable def zz(sc:Scope)(fr up:eB)(x:Str):Option V:=match sc.names.lookup x with
 |some .cell=>getF fr x
 |some .free=>getF up x
 |_=>ae
noncomputable def RK(inner sc:Scope)(fr up:eB):eB:=inner.names.filterMap λp=>if p.2= .free then (zz sc fr up p.1).map λv=>(p.1,v) else ae
set_option backward.match.sparseCases false in
noncomputable def SO:Const->M V
 | .none=>aA .none
 | .bool b=>aA (.bool b)
 | .int i=>aA (.int i)
 | .str s=>aA (.str s)
 |_=>fail
noncomputable def qT(k:Int)(n:Nat):Option Nat:=
 if k.natAbs<=1000000000 then oU k n else ae
noncomputable def iR(s:Str):List V:=s.cps.toList.map λc=>.str ⟨#[c]⟩
@[reducible] noncomputable def uC:O->Option (List V)
 | .list xs=>af xs
 | .tuple xs=>af xs
 |_=>ae
noncomputable def lookE[DecidableEq K]:List (K × V)->K->Option V
 | [],_=>ae
 |(k,v)::r,x=>if k=x then af v else lookE r x
noncomputable def jY(es:List (Str × V))(k:Str)(v:V):List (Str × V):=
 if es.any (λe=>e.1=k) then es.map (λe=>if e.1=k then (e.1,v) else e) else es++ [(k,v)]
noncomputable def B6(es:List (Str × V))(k:Str):List (Str × V):=es.filter λe=>decide (e.1≠k)
noncomputable def isStr:V->Bool
 | .str _=>ao
 |_=>bf
noncomputable def d8(c:Cx)(o i:V):M V:=wb o.jU (λs=>ff i.mj λk=>lift ((qT k s.cps.size).bind λj=>(s.cps[j]?).map λx=>bc ⟨#[x]⟩)) <| eu c o>>=λob=>wb (uC ob) (λxs=>ff i.mj λk=>lift ((qT k xs.length).bind λj=>xs[j]?)) (ff ob.uB λes=>ff i.jU λk=>lift (lookE es k))
noncomputable def CB:V->Option (Option Int)
 | .none=>af ae
 | .int i=>af (af i)
 |_=>ae
noncomputable def sS(xs:List V)(l u s:V):Option (List V):=(CB l).bind λlo=>(CB u).bind λhi=>(CB s).bind λst=>if st=ae then af ((xs.drop (lo.elim 0 (kJ xs.length))).take (hi.elim xs.length (kJ xs.length)-lo.elim 0 (kJ xs.length)))
 else if lo=ae/\hi=ae/\st=af (-1) then af xs.reverse else ae
noncomputable def lu(c:Cx)(o l u s:V):M V:=eu c o>>=λob=>ff ob.jX λxs=>lift (sS xs l u s)>>=λys=>alloc (.list ys)
noncomputable def binC(c:Cx)(op:yq)(a b:V):M V:=match op with
 | .Add=>wb a.mj (λx=>ff b.mj λy=>aA (.int (x+y))) <| wb a.jU (λx=>ff b.jU λy=>if x.cps.size+y.cps.size<=1000000 then aA (.str (x++y)) else fail) (eu c a>>=λoa=>ff oa.jX λxs=>eu c b>>=λob=>ff ob.jX λys=>alloc (.list (xs++ys)))
 | .Sub=>ff a.mj λx=>ff b.mj λy=>aA (.int (x-y))
 | .Mult=>ff a.mj λx=>ff b.mj λy=>if x.natAbs<=1000000000/\y.natAbs<=1000000000 then aA (.int (x*y)) else fail
 | .FloorDiv=>ff a.mj λx=>ff b.mj λy=>if y=0∨x.natAbs>1000000000∨y.natAbs>1000000000 then fail else aA (.int (BM x y))
 | .Mod=>ff a.mj λx=>ff b.mj λy=>if y=0 then fail else aA (.int (kT x y))
 |_=>fail
noncomputable def dataL(f:V->Option PyData):List V->Option (List PyData)
 | []=>af []
 |x::r=>(f x).bind λd=>(dataL f r).map (d:: ·)
noncomputable def Pf(f:V->Option PyData):O->Option PyData
 | .list xs=>(dataL f xs).map .list
 | .tuple xs=>(dataL f xs).map .tuple
 |_=>ae
noncomputable def IA:V->Option PyData
 | .none=>af .none
 | .bool b=>af (.bool b)
 | .int i=>af (.int i)
 | .str x=>af (.str x)
 |_=>ae
noncomputable def eg(os:List O)(n:Nat):V->Option PyData:=n.rec IA λ_ f v=>match v.nu with
 |some i=>(os[i]?).bind (Pf f)
 |ae=>IA v
noncomputable def EL(os:List O)(a b:V):Option Bool:=(eg os 8 a).bind λda=>(eg os 8 b).bind λdb=>if da.canLay0=ao/\db.canLay0=ao/\da.depth<=20 then af (mP da db) else ae
noncomputable def EM(oa ob:O):Option Unit:=oa.uB.bind λes=>ob.uB.bind λes'=>if es.length=es'.length/\(es.all λp=>p.2.jU.isSome&&decide ((lookE es' p.1).bind V.jU=p.2.jU))=ao then af () else ae
noncomputable def Di(os:List O)(a b:V):Option Unit:=a.nu.bind λi=>b.nu.bind λj=>(os[i]?).bind λoa=>(os[j]?).bind λob=>EM oa ob
noncomputable def qu(os:List O)(a b:V):Bool:=decide (EL os a b=af ao)||(Di os a b).isSome
noncomputable def vE(os:List O):List V->List V->Bool
 | [],[]=>ao
 |x::xs,y::ys=>qu os x y&&vE os xs ys
 |_,_=>bf
noncomputable def z7(os:List O)(a b:V):Option Bool:=a.nu.bind λi=>b.nu.bind λj=>(os[i]?).bind λoa=>(os[j]?).bind λob=>oa.uA.bind λxs=>ob.uA.bind λys=>if vE os xs ys=ao then af ao else ae
noncomputable def EN(os:List O)(a b:V):Option Bool:=(EL os a b).or (z7 os a b)
open Classical in
def OY(x:V):List V->Bool
 | []=>bf
 |y::r=>if y=x then ao else OY x r
noncomputable def isV:V->V->Option Bool
 | .none,.none=>af ao
 | .bool a,.bool b=>af (a==b)
 |_,.none=>af bf
 |_,_=>ae
def Pg(c:Cx)(x y:V):M Bool:=wb y.jU (λb=>ff x.jU λa=>aA (!(fw b a 0 b.length 1).isEmpty)) <| eu c y>>=λo=>wb o.jX (λxs=>if isStr x&&xs.all isStr then aA (OY x xs) else fail)
 (wb o.SM (λxs=>ff x.jU λk=>aA (decide (k∈xs))) (wb o.RF (λxs=>ff x.mj λk=>aA (decide (k∈xs))) (ff o.uB λes=>ff x.jU λk=>aA (lookE es k).isSome)))
def cmpC(c:Cx)(op:CmpOp)(a b:V):M V:=match op with
 | .Is=>lift ((isV a b).map .bool)
 | .IsNot=>lift ((isV a b).map λr=>.bool (!r))
 | .Eq=>λ_ s=>(EN s.os a b).map λr=>(.bool r,s)
 | .NotEq=>λ_ s=>(EL s.os a b).map λr=>(.bool (!r),s)
 | .Lt=>ff a.mj λx=>ff b.mj λy=>aA (.bool (x<y))
 | .In=>do return .bool (←Pg c a b)
 | .NotIn=>eu c b>>=λo=>ff o.jX λxs=>if isStr a&&xs.all isStr then aA (.bool (!OY a xs)) else fail
 |_=>fail
noncomputable def cP(c:Cx)(v:V):M Bool:=wb v.RJ aA (eu c v>>=λo=>ff o.jX λxs=>aA (!xs.isEmpty))
noncomputable def tT(K:r8)(C:bk):Bool:=j9 K (.ref C) "__getattribute__" ==af (af (.builtin "object.__getattribute__"))&&j9 K (.ref C) "__getattr__" ==af ae&&
 j9 K (.ref C) "__setattr__" ==af (af (.builtin "object.__setattr__"))&&plainOver K C&&(clsIn K C).isSome
noncomputable def sT(K:r8)(C:bk)(a:Str):Option (bk × Nat):=(refOf (j9 K (.ref C) a)).bind λp=>if r9 K (.ref p) "__get__" ==af (af (.builtin "member_descriptor.__get__"))&&yr K (.ref p)==af ao&&BN K (.ref p)==af (.type "member_descriptor") then (slotIn K p C).map λi=>(p,i) else ae
set_option backward.match.sparseCases false in
noncomputable def EO:V->Bool
 | .bi _=>bf
 |_=>ao
noncomputable def IB(c:Cx)(a:Str)(C:bk)(d:Nat):M V:=eu c (.ref d)>>=λn=>ff n.Vl λes=>
 lift (if tT c.K C&&(clsIn c.K C).any (·.hasDict)&&j9 c.K (.ref C) a==af ae then lookE es a else ae)>>=λv=>if EO v then aA v else fail
noncomputable def IC(c:Cx)(a:Str)(C:bk)(d:Nat)(vs:List (Option V)):M V:=eu c (.ref d)>>=λn=>ff n.Vl λ_=>
 lift (if tT c.K C then sT c.K C a else ae)>>=λpi=>lift ((vs[pi.2]?).join)>>=λv=>if EO v then aA v else fail
noncomputable def ID(o:V)(a:Str):M V:=if a=ah "__next__" then ff o.nu λi=>alloc (.next i) else fail
noncomputable def LK(c:Cx)(a:Str)(C:bk)(t:Nat):M V:=if a=ah "args" /\C∈c.ie then aA (.ref t) else fail
noncomputable def eE(c:Cx)(o:V)(a:Str):M V:=eu c o>>=λob=>wb ob.Iz (λx=>IB c a x.1 x.2) (wb ob.GQ (λx=>IC c a x.1 x.2.1 x.2.2) (wb ob.GP (λ_=>ID o a) (ff ob.SN λx=>LK c a x.1 x.2)))
noncomputable def IE(c:Cx)(a:Str)(v:V)(C:bk)(d:Nat):M Unit:=eu c (.ref d)>>=λn=>ff n.Vl λes=>
 if tT c.K C&&(clsIn c.K C).any (·.hasDict)&&qK c.K C a==af ae then gZ d (.ns (jY es a v)) else fail
noncomputable def IF(c:Cx)(o:V)(a:Str)(v:V)(C:bk)(d:Nat)(vs:List (Option V)):M Unit:=ff o.nu λi=>eu c (.ref d)>>=λn=>ff n.Vl λ_=>
 lift (if tT c.K C then sT c.K C a else ae)>>=λpi=>if pi.2<vs.length/\pi.2<1000/\qK c.K C a=af (af (.ref pi.1)) then gZ i (.slots C d (vs.set pi.2 (af v))) else fail
noncomputable def ec(c:Cx)(o:V)(a:Str)(v:V):M Unit:=eu c o>>=λob=>wb ob.Iz (λx=>IE c a v x.1 x.2) (ff ob.GQ λx=>IF c o a v x.1 x.2.1 x.2.2)
noncomputable def ny(c:Cx)(o i v:V):M Unit:=eu c o>>=λob=>ff ob.uB λes=>ff o.nu λd=>ff i.jU λk=>gZ d (.dict (jY es k v))
noncomputable def xA(c:Cx)(o i:V):M Unit:=eu c o>>=λob=>ff ob.uB λes=>ff o.nu λd=>ff i.jU λk=>if (lookE es k).isSome then gZ d (.dict (B6 es k)) else fail
noncomputable def zA:List V->Option Str
 | []=>af ⟨#[]⟩
 | .str s::r=>(zA r).map λt=>s++t
 |_=>ae
open Classical in
def posOf(x:V):List V->Nat->Option Nat
 | [],_=>ae
 |y::r,k=>if y=x then af k else posOf x r (k+1)
noncomputable def sU(n:Str):Option String:=
 if n=ah "append" then af "list.append" else if n=ah "extend" then af "list.extend" else if n=ah "clear" then af "list.clear" else if n=ah "pop" then af "list.pop"
 else if n=ah "index" then af "list.index" else if n=ah "count" then af "list.count" else ae
noncomputable def wI(n:Str):Option String:=if n=ah "get" then af "dict.get" else if n=ah "values" then af "dict.values" else ae
noncomputable def LL(n:Str):Option String:=if n=ah "add" then af "set.add" else ae
noncomputable def AA(n:Str):Option String:=if n=ah "lower" then af "str.lower" else if n=ah "join" then af "str.join" else if n=ah "index" then af "str.index" else ae
noncomputable def z8(c:Cx)(o:V)(as:List V):M V:=eu c o>>=λob=>ff ob.jX λxs=>ff o.nu λi=>ff (oV as) λv=>gZ i (.list (xs++ [v]))>>=λ_=>aA .none
noncomputable def Dj(c:Cx)(o:V)(as:List V):M V:=eu c o>>=λob=>ff ob.jX λxs=>ff o.nu λi=>ff (oV as) λv=>wb v.jU (λs=>if xs.length+s.cps.size<=1000000 then gZ i (.list (xs++iR s))>>=λ_=>aA .none else fail) <| eu c v>>=λob=>ff ob.jX λys=>gZ i (.list (xs++ys))>>=λ_=>aA .none
noncomputable def GS(c:Cx)(o:V)(as:List V):M V:=eu c o>>=λob=>ff ob.jX λ_=>ff o.nu λi=>ff (GR as) λ_=>gZ i (.list [])>>=λ_=>aA .none
noncomputable def SP(c:Cx)(o:V)(as:List V):M V:=eu c o>>=λob=>ff ob.jX λxs=>ff o.nu λi=>ff (GR as) λ_=>lift xs.getLast?>>=λv=>gZ i (.list xs.dropLast)>>=λ_=>aA v
def GU(c:Cx)(o:V)(as:List V):M V:=eu c o>>=λob=>ff ob.jX λxs=>ff (oV as) λx=>if isStr x&&xs.all isStr then lift ((posOf x xs 0).map λ(k:Nat)=>bD (k:Int)) else fail
open Classical in
def LM(c:Cx)(o:V)(as:List V):M V:=eu c o>>=λob=>ff ob.jX λxs=>ff (oV as) λx=>if isStr x&&xs.all isStr then aA (.int (xs.countP λy=>y=x)) else fail
noncomputable def LN(c:Cx)(o:V)(as:List V):M V:=eu c o>>=λob=>ff (oV as) λx=>wb ob.uB (λes=>ff x.jU λk=>aA ((lookE es k).getD .none)) (ff ob.LH λes=>ff x.mj λk=>aA ((lookE es k).getD .none))
noncomputable def Dk(c:Cx)(o:V)(as:List V):M V:=eu c o>>=λob=>ff ob.uB λ_=>ff o.nu λd=>ff (GR as) λ_=>alloc (.values d)
noncomputable def LO(c:Cx)(o:V)(as:List V):M V:=eu c o>>=λob=>ff ob.SM λxs=>ff o.nu λi=>ff (oV as) λx=>ff x.jU λv=>gZ i (.set (if v∈xs then xs else xs++ [v]))>>=λ_=>aA fX
noncomputable def GV(o:V)(as:List V):M V:=ff o.jU λs=>ff (GR as) λ_=>if s.cps.size<=1000000 then aA (.str (vQ s)) else fail
noncomputable def IG(c:Cx)(o:V)(as:List V):M V:=ff o.jU λs=>ff (oV as) λl=>if s=⟨#[]⟩ then (eu c l>>=λob=>ff ob.jX λxs=>lift (zA xs)>>=λt=>if t.cps.size<=1000000 then aA (.str t) else fail) else fail
noncomputable def Dl(o:V)(as:List V):M V:=ff o.jU λs=>ff (oV as) λx=>ff x.jU λy=>lift ((fw s y 0 s.length 1).head?.map λ(i:Nat)=>bD (i:Int))
def ft(c:Cx)(id:String)(o:V)(as:List V):M V:=
 if id= "list.append" then z8 c o as
 else if id= "list.extend" then Dj c o as
 else if id= "list.clear" then GS c o as
 else if id= "list.pop" then SP c o as
 else if id= "list.index" then GU c o as
 else if id= "list.count" then LM c o as
 else if id= "dict.get" then LN c o as
 else if id= "dict.values" then Dk c o as
 else if id= "set.add" then LO c o as
 else if id= "str.lower" then GV o as
 else if id= "str.join" then IG c o as
 else if id= "str.index" then Dl o as
 else fail
noncomputable def qU(a b c:Int):List V:=(mQ (ed a b c).toNat).map λ(i:Nat)=>bD (a+(i:Int)*c)
noncomputable def SQ(s:Str):Option V:=match s.cps.toList with
 | [x]=>af (.int x)
 |_=>ae
noncomputable def SR(c:Cx)(as:List V):M V:=ff (oV as) λv=>eu c v>>=λob=>ff (uC ob) λxs=>aA (.int xs.length)
noncomputable def SS(as:List V):M V:=ff (oV as) λv=>ff v.jU λs=>lift (SQ s)
noncomputable def Ph(as:List V):M V:=ff (oV as) λv=>ff v.mj λi=>if 0<=i/\i<1114112 then aA (.str ⟨#[i.toNat]⟩) else fail
noncomputable def LP(c:Cx)(as:List V):M V:=ff (oV as) λv=>ff v.nu λi=>eu c (.ref i)>>=λob=>ff ob.jX λ_=>alloc (.kP i 0)
noncomputable def AB:List V->Option (List Str)
 | []=>af []
 |v::r=>v.jU.bind λs=>(AB r).map (s:: ·)
noncomputable def ltB(a b:Str):Bool:=PySem.Spec.ltCps a.cps.toList b.cps.toList
noncomputable def JW(a:Str):List Str->List Str
 | []=>[a]
 |b::r=>if ltB b a then b::JW a r else a::b::r
noncomputable def rK(l:List Str):List Str:=l.foldr JW []
noncomputable def Dm(c:Cx)(as:List V):M V:=ff (oV as) λv=>eu c v>>=λob=>ff ob.uA λxs=>lift (AB xs)>>=λss=>if ss.length<64 then (alloc (.list xs)>>=λr=>ff r.nu λi=>gZ i (.list ((rK ss).map bc))>>=λ_=>aA r) else fail
noncomputable def Pj(c:Cx)(id:String)(as:List V):M V:=
 if id= "len" then SR c as
 else if id= "ord" then SS as
 else if id= "chr" then Ph as
 else if id= "iter" then LP c as
 else if id= "sorted" then Dm c as
 else fail
@[reducible] noncomputable def LQ:List V->Option (V × V × V)
 | [a,b,c]=>af (a,b,c)
 |_=>ae
noncomputable def Pk(a b k:V):M V:=ff a.mj λa=>ff b.mj λb=>ff k.mj λk=>if 0<k/\k<1000000 then alloc (.range a b k) else fail
noncomputable def Dp(as:List V):M V:=wb (oV as) (λv=>ff v.mj λb=>alloc (.range 0 b 1)) (ff (LQ as) λt=>Pk t.1 t.2.1 t.2.2)
noncomputable def GW(c:Cx)(as:List V):M V:=ff (oV as) λv=>eu c v>>=λob=>ff ob.jX λxs=>alloc (.tuple xs)
noncomputable def LR(c:Cx)(as:List V):M V:=ff (oV as) λv=>eu c v>>=λob=>ff ob.jX λxs=>aA (.bool (!xs.isEmpty))
noncomputable def RL(as:List V):M V:=ff (GR as) λ_=>alloc (.set [])
noncomputable def AD(c:Cx)(n:String)(as:List V):M V:=
 if n= "range" then Dp as
 else if n= "tuple" then GW c as
 else if n= "bool" then LR c as
 else if n= "set" then RL as
 else fail
noncomputable def dN(c:Cx)(f:V)(as:List V):M CR:=wb f.biV (λid=>if c.hd then (do return .ret (←Pj c id as)) else fail) (wb f.RH (λn=>if c.hd then (do return .ret (←AD c n as)) else fail)
 (ff f.LJ λa=>if c.hd&&ka c.K (.ref a) then (λz s=>(c.call (.top a) as s.os z).map λ(r,os')=>(r,{s with os:=os'})) else fail))
noncomputable def ef:CR->M V
 | .ret v=>aA v
 | .exc _=>fail
set_option genCtorIdx false in
inductive Me where
 |fn (f:bk)
 |bi (id:String)
noncomputable def Me.ctorIdx(x:Me):Nat:=Me.casesOn x (λ_=>0) (λ_=>1)
set_option backward.match.sparseCases false in
noncomputable def idOf(o:O)(n:Str):Option String:=match o with
 | .list _=>sU n
 | .dict _=>wI n
 | .qt _=>wI n
 | .set _=>LL n
 |_=>ae
noncomputable def wJ(K:r8)(C:bk)(es:List (Str × V))(name:Str)(f:bk):Bool:=tT K C&&(BN K (.ref f)==af (.type "function")&&((lookE es name).isNone&&(hasDictIn K C&&(r9 K (.ref f) "__get__" ==af (af (.builtin "function.__get__"))&&(yr K (.ref f)==af bf&&(!copiedNames.contains name&&fnIn K f))))))
noncomputable def GX(K:r8)(C:bk)(es:List (Str × V))(name:Str):Option bk:=(refOf (j9 K (.ref C) name)).bind λf=>if wJ K C es name f then af f else ae
noncomputable def RM(c:Cx)(name:Str)(C:bk)(d:Nat):M Me:=eu c (.ref d)>>=λn=>ff n.Vl λes=>lift (GX c.K C es name)>>=λf=>aA (.fn f)
noncomputable def LU(o:Option String):M Me:=lift o>>=λid=>aA (.bi id)
noncomputable def ez(c:Cx)(o:V)(name:Str):M Me:=wb o.jU (λ_=>LU (AA name)) (eu c o>>=λob=>wb ob.Iz (λx=>RM c name x.1 x.2) (LU (idOf ob name)))
def eK(c:Cx)(o:V)(m:Me)(as:List V):M CR:=match m with
 | .fn f=>dN c (.top f) (o::as)
 | .bi id=>if c.hd||id= "list.pop" then (do return EA (←ft c id o as)) else fail
structure Src where
 items:List V
 fz:Option Nat
noncomputable def LV(t:Int × Int × Int):M Src:=if 0<t.2.2/\iM t.1 t.2.1 t.2.2=ao then aA ⟨qU t.1 t.2.1 t.2.2,ae⟩ else fail
noncomputable def SU(c:Cx)(d:Nat):M Src:=eu c (.ref d)>>=λob=>ff ob.uB λes=>aA ⟨es.map λe=>e.2,af d⟩
noncomputable def Pl(c:Cx)(ob:O):M Src:=wb ob.LI LV (ff ob.Iy (SU c))
noncomputable def Pm(c:Cx)(i:Nat)(ob:O):M Src:=wb ob.uB (λes=>aA ⟨es.map λe=>.str e.1,af i⟩) (Pl c ob)
noncomputable def GY(c:Cx)(i:Nat):M Src:=eu c (.ref i)>>=λob=>wb (uC ob) (λxs=>aA ⟨xs,af i⟩) (Pm c i ob)
noncomputable def gN(c:Cx)(v:V):M Src:=if c.hd then wb v.jU (λs=>aA ⟨iR s,ae⟩) (ff v.nu (GY c)) else fail
noncomputable def dk(o:Option Nat)(m:M α):M α:=λz s=>m (o.toList++z) s
noncomputable def fu(turn:V->M Unit):List V->M Unit
 | []=>aA ()
 |v::r=>do turn v;fu turn r
noncomputable def fU(turn:V->M Fl):List V->M Fl
 | []=>aA .next
 |v::r=>do
  match←turn v with
  | .next| .cont=>fU turn r
  | .brk=>aA .next
  | .ret v=>aA (.ret v)
  | .exc _=>fail
set_option backward.match.sparseCases false in
noncomputable def AE(f:Fl):M Fl:=match f with
 | .exc _=>fail
 |f=>aA f
noncomputable def hU(test:M Bool)(body orelse:M Fl):Nat->M Fl
 |0=>fail
 |n+1=>do
  if←test then
   match←body with
   | .next| .cont=>hU test body orelse n
   | .brk=>aA .next
   | .ret v=>aA (.ret v)
   | .exc _=>fail
  else do AE (←orelse)
set_option backward.match.sparseCases false in
noncomputable def zB:au->Option Str
 | .Name x _=>af x
 |_=>ae
set_option backward.match.sparseCases false in
noncomputable def VD:au->Option (List au)
 | .Tuple ts _ _=>af ts
 |_=>ae
set_option backward.match.sparseCases false in
noncomputable def SV:au->Option (au × au)
 | .Subscript o i _=>af (o,i)
 |_=>ae
set_option backward.match.sparseCases false in
noncomputable def II:au->Option (au × Str × Pos)
 | .Attribute o a p=>af (o,a,p)
 |_=>ae
set_option backward.match.sparseCases false in
noncomputable def Dq:au->Option (au × List au × Pos)
 | .Call f as [] p=>af (f,as,p)
 |_=>ae
noncomputable def rL(sc:Scope):List au->List V->M Unit
 |t::ts,v::vs=>ff (zB t) λx=>setC sc x v>>=λ_=>rL sc ts vs
 | [],[]=>aA ()
 |_,_=>fail
noncomputable def EP(c:Cx)(sc:Scope)(ts:List au)(v:V):M Unit:=eu c v>>=λob=>ff ob.uA λxs=>if xs.length=ts.length then rL sc ts xs else fail
noncomputable def IJ(c:Cx)(sc:Scope)(t:au)(v:V):M Unit:=wb (zB t) (λx=>setC sc x v) (ff (VD t) λts=>EP c sc ts v)
noncomputable def baseOk:au->Bool
 | .Call (.Name _ _) [] [] _=>bf
 |_=>ao
noncomputable def notStar(e:au):Bool:= !(il e.ctorIdx 22)
noncomputable def Me.isFn:Me->Bool
 | .fn _=>ao
 | .bi _=>bf
noncomputable def notAttr(e:au):Bool:= !(il e.ctorIdx 20)
noncomputable def AF(e:au):Bool:= !(il e.ctorIdx 7)
noncomputable def wK(scope sc:Scope)(gens:List iC):Bool:=decide (scope.kind= .function)&&gens.all (λg=>decide (g.is_async=0)&&AF g.iter)&&
 scope.names.all λp=>decide (p.2≠ .cell)&&decide (scope.names.lookup p.1=af p.2)&&(decide (p.2≠ .free)||decide (sc.names.lookup p.1=af .cell)||decide (sc.names.lookup p.1=af .free))
set_option backward.match.sparseCases false in
noncomputable def GZ(v:V):M V:=ff v.mj λi=>aA (.int (-i))
noncomputable def zC(c:Cx)(v:V):M (List V):=eu c v>>=λob=>ff (uC ob) aA
noncomputable def i4(c:Cx)(acc:Nat)(v:V):M Unit:=eu c (.ref acc)>>=λob=>ff ob.jX λxs=>gZ acc (.list (xs++ [v]))
set_option backward.match.sparseCases false in
mutual
def cX(c:Cx):au->Scope->eB->M V
 | .Constant k _ _,_,_=>SO k
 | .Name x _,sc,up=>zy c sc up x
 | .NamedExpr (.Name x _) e _,sc,up=>do let v←cX c e sc up;setC sc x v;aA v
 | .BoolOp .Or [a,b] _,sc,up=>do
  let x←cX c a sc up
  if←cP c x then aA x else cX c b sc up
 | .BinOp l op r _,sc,up=>do
  let a←cX c l sc up
  let b←cX c r sc up
  binC c op a b
 | .UnaryOp .USub e _,sc,up=>do GZ (←cX c e sc up)
 | .IfExp t b o _,sc,up=>do if←tU c t sc up (cX c t sc up) then cX c b sc up else cX c o sc up
 | .Dict [] [] _,_,_=>alloc (.dict [])
 | .List es _,sc,up=>do let vs←AG c es sc up;alloc (.list vs)
 | .Tuple es _ _,sc,up=>do let vs←AG c es sc up;alloc (.tuple vs)
 | .Compare l [op] [r] _,sc,up=>if behindInMarks op r then fail else do
  let a←cX c l sc up
  let b←cX c r sc up
  cmpC c op a b
 | .Call (.Attribute o name ap) args [] pos,sc,up=>if !baseOk o|| !(ap.endLine==pos.line)|| !decide (args.length<30) then fail else do
  let ov←cX c o sc up
  let m←ez c ov name
  if args.all notStar||m.isFn then aA () else fail
  let as←uD c args sc up
  ef (←eK c ov m as)
 | .Call f args [] _,sc,up=>do
  let fv←cX c f sc up
  let as←uD c args sc up
  ef (←dN c fv as)
 | .JoinedStr [.Constant (.str s) _ _] _,_,_=>aA (.str s)
 | .Attribute o a _,sc,up=>if !baseOk o then fail else do let ov←cX c o sc up;eE c ov a
 | .Subscript o (.Slice l u s _) _,sc,up=>do
  let ov←cX c o sc up
  let lv←G0 c l sc up
  let uv←G0 c u sc up
  let sv←G0 c s sc up
  lu c ov lv uv sv
 | .Subscript o i _,sc,up=>do
  let ov←cX c o sc up
  let iv←cX c i sc up
  d8 c ov iv
 | .ListComp elt gens scope _,sc,up=>if !wK scope sc gens then fail else do
  let it←AH c gens sc up
  let src←gN c it
  let acc←alloc (.list [])
  ff acc.nu λi z s=>(ER c gens scope (RK scope sc s.fr up) (cX c elt scope (RK scope sc s.fr up)) i src z ⟨[],s.os⟩).map λr=>(acc,⟨s.fr,r.2.os⟩)
 |_,_,_=>fail
def G0(c:Cx):Option au->Scope->eB->M V
 |ae,_,_=>aA .none
 |some e,sc,up=>cX c e sc up
def AG(c:Cx):List au->Scope->eB->M (List V)
 | [],_,_=>aA []
 |e::r,sc,up=>do let v←cX c e sc up;let vs←AG c r sc up;aA (v::vs)
def uD(c:Cx):List au->Scope->eB->M (List V)
 | [],_,_=>aA []
 | [.Starred e _],sc,up=>do zC c (←cX c e sc up)
 |e::r,sc,up=>do let v←cX c e sc up;let vs←uD c r sc up;aA (v::vs)
def tU(c:Cx):au->Scope->eB->M V->M Bool
 | .BoolOp .And [a,b] _,sc,up,_=>do if←tU c a sc up (cX c a sc up) then tU c b sc up (cX c b sc up) else aA bf
 | .BoolOp .Or [a,b] _,sc,up,_=>do if←tU c a sc up (cX c a sc up) then aA ao else tU c b sc up (cX c b sc up)
 | .IfExp ..,_,_,_=>fail
 | .UnaryOp ..,_,_,_=>fail
 | .BoolOp ..,_,_,_=>fail
 | .Compare _ [_] [_] _,_,_,whole=>do cP c (←whole)
 | .Compare ..,_,_,_=>fail
 |_,_,_,whole=>do cP c (←whole)
def Dr(c:Cx):List au->Scope->eB->M Bool
 | [],_,_=>aA ao
 |e::r,sc,up=>do if←tU c e sc up (cX c e sc up) then Dr c r sc up else aA bf
def AH(c:Cx):List iC->Scope->eB->M V
 |⟨_,iter,_,_⟩::_,sc,up=>cX c iter sc up
 | [],_,_=>fail
def ER(c:Cx):List iC->Scope->eB->M V->Nat->Src->M Unit
 | [],_,_,_,_,_=>fail
 |⟨t,_,ifs,_⟩::rest,sc,up,elt,acc,src=>
  dk src.fz (fu (λv=>do
   IJ c sc t v
   if←Dr c ifs sc up then
    (if rest.isEmpty then (do i4 c acc (←elt))
    else (do
     let it'←AH c rest sc up
     let src'←gN c it'
     ER c rest sc up elt acc src'))
   else aA ()) src.items)
end
noncomputable def ES(op:yq)(a b:V):M V:=ff a.mj λx=>ff b.mj λy=>match op with
 | .Add=>aA (.int (x+y))
 | .Sub=>aA (.int (x-y))
 |_=>fail
def G3(c:Cx)(sc:Scope)(up:eB)(v:V)(t:au):M Unit:=wb (zB t) (λx=>setC sc x v) (wb (II t) (λoa=>cX c oa.1 sc up>>=λov=>ec c ov oa.2.1 v)
 (ff (SV t) λoi=>cX c oi.1 sc up>>=λov=>cX c oi.2 sc up>>=λiv=>ny c ov iv v))
def z9(c:Cx)(sc:Scope)(up:eB)(v:V):List au->M Unit
 | []=>aA ()
 |t::r=>do G3 c sc up v t;z9 c sc up v r
set_option backward.match.sparseCases false in
noncomputable def VE:fY->Option (List au × au)
 | .Assign ts v _=>af (ts,v)
 |_=>ae
set_option backward.match.sparseCases false in
noncomputable def SW:fY->Option au
 | .Return (af e) _=>af e
 |_=>ae
noncomputable def IK(a:fY):Option (Str × au):=(VE a).bind λq=>((oV q.1).bind zB).bind λx=>(Dq q.2).bind λg=>if notAttr g.1&&g.2.1.isEmpty then af (x,g.1) else ae
noncomputable def IL(a:fY):Option (au × Str):=((SW a).bind Dq).bind λg=>(II g.1).bind λo=>if baseOk o.1&&o.2.2.endLine==g.2.2.line&&g.2.1.isEmpty then af (o.1,o.2.1) else ae
noncomputable def ET(e:au):Option (Str × List au):=(Dq e).bind λg=>if g.2.1.all notStar then (zB g.1).map λx=>(x,g.2.1) else ae
set_option backward.match.sparseCases false in
noncomputable def RN:ExceptHandler->Option (Str × Option Str × List fY)
 | .ExceptHandler (af t) n (a::b) _=>(zB t).map λx=>(x,n,a::b)
 |_=>ae
set_option backward.match.sparseCases false in
noncomputable def uE(c:Cx)(set:V->M Unit)(rest hb:M Fl)(fv:V):M Fl:=eu c fv>>=λo=>ff o.RG λit=>eu c (.ref it)>>=λo=>ff o.GP λlk=>eu c (.ref lk.1)>>=λo=>ff o.jX λxs=>
 wb xs[lk.2]? (λv=>gZ it (.kP lk.1 (lk.2+1))>>=λ_=>set v>>=λ_=>rest>>=AE) (gZ it .dead>>=λ_=>hb>>=AE)
noncomputable def G4:V->Bool
 | .type t=>decide (t= "StopIteration")
 |_=>bf
set_option backward.match.sparseCases false in
noncomputable def Pn(c:Cx)(set:V->M Unit)(cv:M V)(en:M V)(i:Nat):M Fl:=eu c (.ref i)>>=λo=>ff o.SN λCt=>cv>>=λv=>ff v.LJ λC'=>if Ct.1=C'/\Ct.1∈c.ie then (set (.ref i)>>=λ_=>en>>=λv=>λ_ s=>af (.ret v,{s with fr:=[]})) else fail
noncomputable def Aa(c:Cx)(set:V->M Unit)(cv:M V)(en:M V)(r:CR):M Fl:=match r with
 | .ret v=>aA (.ret v)
 | .exc i=>Pn c set cv en i
noncomputable def G5(C:bk)(as:List V):M Fl:=alloc (.tuple as)>>=λt=>ff t.nu λti=>alloc (.exc C ti)>>=λe=>ff e.nu λe=>aA (.exc e)
noncomputable def seqM(a b:M Fl):M Fl:=do
 match←a with
 | .next=>b
 |f=>aA f
set_option backward.match.sparseCases false in
mutual
def CC(c:Cx)(sc:Scope)(up:eB):fY->M Fl
 | .Expr e _=>if il e.ctorIdx 8 then fail else do let _←cX c e sc up;aA .next
 | .Break _=>aA .brk
 | .Continue _=>aA .cont
 | .Return e _=>do return .ret (←G0 c e sc up)
 | .Assign ts e _=>do let v←cX c e sc up;z9 c sc up v ts;aA .next
 | .AugAssign t op e _=>do
  let oa←lift (II t)
  let ov←cX c oa.1 sc up
  let old←eE c ov oa.2.1
  let v←cX c e sc up
  let new←ES op old v
  ec c ov oa.2.1 new
  pure .next
 | .Delete ts _=>do
  let oi←lift ((oV ts).bind SV)
  let ov←cX c oi.1 sc up
  let iv←cX c oi.2 sc up
  xA c ov iv
  pure .next
 | .If t b o _=>do if←tU c t sc up (cX c t sc up) then jG c sc up b else jG c sc up o
 | .While t b o _=>hU (tU c t sc up (cX c t sc up)) (jG c sc up b) (jG c sc up o) c.fuel
 | .For t e b o _=>if !AF e|| !o.isEmpty then fail else do
  let x←lift (zB t)
  let v←cX c e sc up
  let src←gN c v
  dk src.fz (fU (λv=>do setC sc x v;jG c sc up b) src.items)
 | .Try b hs o fb _=>if !c.hd|| !o.isEmpty|| !fb.isEmpty then fail else do
  let h←lift ((oV hs).bind RN)
  match h.2.1 with
  |ae=>do
   let xf←lift (b.head?.bind IK)
   let fv←cX c xf.2 sc up
   uE c (setC sc xf.1) (VF c sc up b) (do
    if G4 (←zy c sc up h.1) then VG {c with hd:=bf} sc up hs else fail) fv
  |some n=>if !decide (sc.names.lookup n=af .local) then fail else do
   let om←lift ((oV b).bind IL)
   let e←lift ((oV h.2.2).bind SW)
   let ov←cX c om.1 sc up
   let m←ez c ov om.2
   Aa c (setC sc n) (zy c sc up h.1) (cX {c with hd:=bf} e sc up) (←eK c ov m [])
 | .Raise e cs _=>if !c.hd||cs.isSome then fail else do
  let na←lift (e.bind ET)
  let cv←zy c sc up na.1
  ff cv.LJ λC=>if C∉c.ie then fail else do G5 C (←uD c na.2 sc up)
 |_=>fail
def VF(c:Cx)(sc:Scope)(up:eB):List fY->M Fl
 | []=>fail
 |_::r=>jG c sc up r
def VG(c:Cx)(sc:Scope)(up:eB):List ExceptHandler->M Fl
 | []=>fail
 |h::_=>SX c sc up h
def SX(c:Cx)(sc:Scope)(up:eB):ExceptHandler->M Fl
 | .ExceptHandler _ _ b _=>jG c sc up b
def jG(c:Cx)(sc:Scope)(up:eB):List fY->M Fl
 | []=>aA .next
 |s::r=>seqM (CC c sc up s) (jG c sc up r)
end
noncomputable def AI(sl:List (Str × α)):List (Str × α)->List (Str × α)
 | []=>sl
 |(n,d)::r=>AI (if (sl.lookup n).isNone then sl++ [(n,d)] else sl) r
noncomputable def sV(ps:List Str)(pM:List α):List α:=pM.drop (pM.length-ps.length)
noncomputable def uF(ps:List Str)(pM vals:List α):List (Str × α):=AI (ps.zip vals) ((ps.drop (ps.length-(sV ps pM).length)).zip (sV ps pM))
noncomputable def xB(ps:List Str)(pM vals:List α):List (Str × α):=ps.filterMap λn=>((uF ps pM vals).lookup n).map λv=>(n,v)
noncomputable def yL(ps:List Str)(pM vals:List α)(more:Bool):Bool:=(decide (vals.length<=ps.length)||more)&&(ps.take (ps.length-(sV ps pM).length)).all λn=>((ps.zip vals).lookup n).isSome
set_option backward.match.sparseCases false in
@[reducible] noncomputable def RO:Option Obj->Option (List ay)
 |some ⟨_,_,.seq xs _,_⟩=>af xs.toList
 |_=>ae
noncomputable def IM(K:r8):ay->Option (List V)
 | .none=>af []
 | .ref a=>(RO (K.lookup a)).bind λxs=>xs.mapM kj
 |_=>ae
noncomputable def putAll:eB->List (Str × V)->eB
 |fr,[]=>fr
 |fr,(x,v)::r=>putAll (putF fr x v) r
set_option backward.match.sparseCases false in
@[reducible] noncomputable def LW:Option Obj->Option (Array ay)
 |some ⟨_,_,.fields xs,_⟩=>af xs
 |_=>ae
set_option backward.match.sparseCases false in
@[reducible] noncomputable def strAt:Option ay->Option Str
 |some (.str q _)=>af q
 |_=>ae
noncomputable def codeIn(K:r8)(fd:kS):Bool:=decide (((refOf (af (af fd.code))).bind λc=>(LW (K.lookup c)).bind λvs=>strAt vs[1]?)=af fd.qualname)
noncomputable def SY(K:r8)(fd:kS):Bool:=fd.params.posonlyargs.isEmpty&&fd.params.kwonlyargs.isEmpty&&fd.params.kwarg.isNone&&fd.closure.isEmpty&&decide (fd.globals=gu)&&decide (fd.builtins=builtinsNs)&&
 decide (fd.scope.kind= .function)&& !fd.scope.isGenerator&& !fd.scope.isCoroutine&&codeIn K fd&&decide ((gH 0 fd.scope.names []).map (·.1)).Nodup&&fd.scope.names.all λp=>decide (p.2≠ .free)
noncomputable def Ab(sc:Scope)(bs:List (Str × V)):Bool:=bs.all λp=>decide (sc.names.lookup p.1=af .local)||decide (sc.names.lookup p.1=af .cell)
noncomputable def bindC(fd:kS)(pM:List V)(as:List V):M eB:=if yL (fd.params.args.map (·.arg)) pM as fd.params.vararg.isSome then (match fd.params.vararg with
  |ae=>if Ab fd.scope (xB (fd.params.args.map (·.arg)) pM as) then aA (putAll [] (xB (fd.params.args.map (·.arg)) pM as)) else fail
  |some a=>do
   let t←alloc (.tuple (as.drop fd.params.args.length))
   if Ab fd.scope (xB (fd.params.args.map (·.arg)) pM as++ [(a.arg,t)]) then aA (putAll [] (xB (fd.params.args.map (·.arg)) pM as++ [(a.arg,t)])) else fail) else fail
set_option backward.match.sparseCases false in
set_option backward.match.sparseCases false in
noncomputable def VH:Fl->Option CR
 | .ret v=>af (.ret v)
 | .next=>af (.ret .none)
 | .exc i=>af (.exc i)
 |_=>ae
noncomputable def nA(o:Option (Fl × eP)):Option (CR × List O):=o.bind λr=>(VH r.1).map λq=>(q,r.2.os)
set_option backward.match.sparseCases false in
noncomputable def bodyOf:FuncBody->Option (List fY)
 | .stmts b=>af b
 |_=>ae
def LX(c:Cx)(fd:kS)(as:List V)(os:List O)(fz:List Nat):Option (CR × List O):=
 if !SY c.K fd then ae else (IM c.K fd.defaults).bind λpM=>(bodyOf fd.body).bind λb=>(bindC fd pM as fz ⟨[],os⟩).bind λq=>nA (jG c fd.scope [] b fz ⟨q.1,q.2.os⟩)
noncomputable def LY(cd:oS)(C:bk)(d:Nat):O:=if cd.hasDict then .inst C d else .slots C d (gw 5 ae)
set_option backward.match.sparseCases false in
noncomputable def Ac:CR->Bool
 | .ret .none=>ao
 |_=>bf
def IP(c:Cx)(C:bk)(cd:oS)(as:List V)(os:List O)(fz:List Nat):Option (CR × List O):=
 if !makesIn c.K C then ae else (refOf (j9 c.K (.ref C) "__init__")).bind λf=>if !PySem.W.isFn c.K (.ref f) then ae else (fdOf (c.K.lookup f)).bind λfd=>
  (LX c fd (.ref (os.length+1)::as) (os++ [.ns [],LY cd C os.length]) fz).bind λr=>if Ac r.1 then af (.ret (.ref (os.length+1)),r.2) else ae
def callC(K:r8)(aj:List (bk × O))(ie:List bk)(fuel:Nat)(n:Nat):V->List V->List O->List Nat->Option (CR × List O):=n.rec (λ_ _ _ _=>ae) λ_ call v as os fz=>v.LJ.bind λa=>
  match fdOf (K.lookup a) with
  |some fd=>LX ⟨K,aj,call,fuel,ao,ie⟩ fd as os fz
  |ae=>(Pe (K.lookup a)).bind λcd=>IP ⟨K,aj,call,fuel,ao,ie⟩ a cd as os fz
variable{c:Cx}{s₁:eP}{o v:V}{body:eB->Nat->Src->M Unit}{es:List (Str × V)}{os σ σ' os':List O}{xs vs as:List V}{fr et:eB}{turn:eB->Nat->V->M Unit}{aj:List (bk × O)}{ups:eB->eB}
theorem kY{r:α}(h:ae=af r):C:=nomatch h
theorem sj{a b:α}(h:af a=af b):a=b:=t5 h
section
variable{s:eP}{r:α × eP}
theorem eh{o:Option β}{f:β->M α}{k:M α}(e:wb o f k z s=af r)(h:∀b,o=af b->f b z s=af r->C)(h':o=ae->k z s=af r->C):C:=by
 induction o using aw with
 |none=>exact h' rfl e
 |some b=>exact h b rfl e
theorem bZ{o:Option β}{f:β->M α}(e:ff o f z s=af r)(h:∀b,o=af b->f b z s=af r->C):C:=eh e h λ_ h=>kY h
theorem EC[Decidable p]{a b:M α}(e:(if p then a else b) z s=af r)(h:p->a z s=af r->C)(h':b z s=af r->C):C:=by
 by_cases q:p
 ·rw [if_pos q] at e;exact h q e
 ·rw [if_neg q] at e;exact h' e
theorem xC[Decidable p]{a:M α}(e:(if p then a else fail) z s=af r)(h:p->a z s=af r->C):C:=by
 by_cases q:p
 ·rw [if_pos q] at e;exact h q e
 ·rw [if_neg q] at e;exact kY e
theorem Ta[Decidable p]{a:M α}(e:(if p then fail else a) z s=af r)(h:¬p->a z s=af r->C):C:=by
 by_cases q:p
 ·rw [if_pos q] at e;exact kY e
 ·rw [if_neg q] at e;exact h q e
theorem Tb[Decidable p]{a:Option β}{b:β}(e:(if p then ae else a)=af b)(h:¬p->a=af b->C):C:=by
 by_cases q:p
 ·rw [if_pos q] at e;exact kY e
 ·rw [if_neg q] at e;exact h q e
theorem Lu[Decidable p]{a:Option β}{b:β}(e:(if p then a else ae)=af b)(h:p->a=af b->C):C:=by
 by_cases q:p
 ·rw [if_pos q] at e;exact h q e
 ·rw [if_neg q] at e;exact kY e
end
section
variable{o:O}
theorem wL{x:List V}(h:o.jX=af x):o= .list x:=by
 induction o using O.casesOn<;>first|exact congrArg _ (sj h)|exact kY h
theorem Ad{x:List V}(h:o.uA=af x):o= .tuple x:=by
 induction o using O.casesOn<;>first|exact congrArg _ (sj h)|exact kY h
theorem qV{x:List (Str × V)}(h:o.uB=af x):o= .dict x:=by
 induction o using O.casesOn<;>first|exact congrArg _ (sj h)|exact kY h
theorem Po{x:List (Int × V)}(h:o.LH=af x):o= .qt x:=by
 induction o using O.casesOn<;>first|exact congrArg _ (sj h)|exact kY h
theorem RP{x:List Str}(h:o.SM=af x):o= .set x:=by
 induction o using O.casesOn<;>first|exact congrArg _ (sj h)|exact kY h
theorem Tc{x:List Int}(h:o.RF=af x):o= .B5 x:=by
 induction o using O.casesOn<;>first|exact congrArg _ (sj h)|exact kY h
theorem LZ{x:List (Str × V)}(h:o.Vl=af x):o= .ns x:=by
 induction o using O.casesOn<;>first|exact congrArg _ (sj h)|exact kY h
theorem Td{x:Nat}(h:o.RG=af x):o= .next x:=by
 induction o using O.casesOn<;>first|exact congrArg _ (sj h)|exact kY h
theorem L6{x:Nat}(h:o.Iy=af x):o= .values x:=by
 induction o using O.casesOn<;>first|exact congrArg _ (sj h)|exact kY h
theorem Ds{x:bk × Nat}(h:o.Iz=af x):o= .inst x.1 x.2:=by
 induction o using O.casesOn<;>first|exact sj h▸rfl|exact kY h
theorem RQ{x:bk × Nat}(h:o.SN=af x):o= .exc x.1 x.2:=by
 induction o using O.casesOn<;>first|exact sj h▸rfl|exact kY h
theorem IQ{x:Nat × Nat}(h:o.GP=af x):o= .kP x.1 x.2:=by
 induction o using O.casesOn<;>first|exact sj h▸rfl|exact kY h
theorem Pp{x:Int × Int × Int}(h:o.LI=af x):o= .range x.1 x.2.1 x.2.2:=by
 induction o using O.casesOn<;>first|exact sj h▸rfl|exact kY h
theorem IS{x:bk × Nat × List (Option V)}(h:o.GQ=af x):o= .slots x.1 x.2.1 x.2.2:=by
 induction o using O.casesOn<;>first|exact sj h▸rfl|exact kY h
theorem Ae(h:uC o=af xs):o= .list xs∨o= .tuple xs:=by
 induction o using O.casesOn<;>first|exact .inl (congrArg _ (sj h))|exact .inr (congrArg _ (sj h))|exact kY h
theorem CD{x:Int}(h:v.mj=af x):v= .int x:=by
 induction v using V.casesOn<;>first|exact congrArg _ (sj h)|exact kY h
theorem nB(h:v.jU=af x):v= .str x:=by
 induction v using V.casesOn<;>first|exact congrArg _ (sj h)|exact kY h
theorem qw{x:Nat}(h:v.nu=af x):v= .ref x:=by
 induction v using V.casesOn<;>first|exact congrArg _ (sj h)|exact kY h
theorem IT{x:bk}(h:v.LJ=af x):v= .top x:=by
 induction v using V.casesOn<;>first|exact congrArg _ (sj h)|exact kY h
theorem L7{x:String}(h:v.RH=af x):v= .type x:=by
 induction v using V.casesOn<;>first|exact congrArg _ (sj h)|exact kY h
theorem VI{x:String}(h:v.biV=af x):v= .bi x:=by
 induction v using V.casesOn<;>first|exact congrArg _ (sj h)|exact kY h
theorem Te{b:Bool}(h:v.RJ=af b):(v= .none/\b=bf)∨v= .bool b:=by
 induction v using V.casesOn<;>first|exact .inr (congrArg _ (sj h))|exact .inl ⟨rfl,(sj h).symm⟩|exact kY h
end
section
variable{l:List α}
theorem VJ(h:GR l=af u):l= []:=by
 induction l using aC<;>first|rfl|exact kY h
theorem AJ{x:α}(h:oV l=af x):l= [x]:=by
 induction l using aC with
 |nil=>exact kY h
 |cons y r=>induction r using aC<;>first|exact congrArg (· :: []) (sj h)|exact kY h
end
theorem IU{x:Option (Option ay)}{p:bk}(h:refOf x=af p):x=af (af (.ref p)):=by
 induction x using aw with
 |none=>exact kY h
 |some y=>
  induction y using aw with
  |none=>exact kY h
  |some v=>induction v using iN<;>first|exact sj h▸rfl|exact kY h
theorem VK{x:Option Obj}{fd:kS}(h:fdOf x=af fd):∃t d sl,x=af ⟨t,d,.func fd,sl⟩:=by
 induction x using aw with
 |none=>exact kY h
 |some y=>
  induction y using lT with
  |mk t d v sl=>induction v using lC<;>first|exact sj h▸⟨_,_,_,rfl⟩|exact kY h
theorem YO{x:Option Obj}{cd:oS}(h:Pe x=af cd):∃t d sl,x=af ⟨t,d,.cls cd,sl⟩:=by
 induction x using aw with
 |none=>exact kY h
 |some y=>
  induction y using lT with
  |mk t d v sl=>induction v using lC<;>first|exact sj h▸⟨_,_,_,rfl⟩|exact kY h
theorem Tf{x:FuncBody}{b:List fY}(h:bodyOf x=af b):x= .stmts b:=by
 induction x using PySem.FuncBody.casesOn<;>first|exact congrArg _ (sj h)|exact kY h
theorem VL{x:Option Obj}{l:List ay}(h:RO x=af l):∃t d xs n sl,x=af ⟨t,d,.seq xs n,sl⟩/\l=xs.toList:=by
 induction x using aw with
 |none=>exact kY h
 |some y=>
  induction y using lT with
  |mk t d v sl=>induction v using lC<;>first|exact ⟨_,_,_,_,_,rfl,(sj h).symm⟩|exact kY h
theorem Tg{x:Option Obj}{l:Array ay}(h:LW x=af l):∃t d sl,x=af ⟨t,d,.fields l,sl⟩:=by
 induction x using aw with
 |none=>exact kY h
 |some y=>
  induction y using lT with
  |mk t d v sl=>induction v using lC<;>first|exact sj h▸⟨_,_,_,rfl⟩|exact kY h
theorem VM{x:Option ay}{q:Str}(h:strAt x=af q):∃t,x=af (.str q t):=by
 induction x using aw with
 |none=>exact kY h
 |some v=>induction v using iN<;>first|exact sj h▸⟨_,rfl⟩|exact kY h
theorem Pq{l:List V}{x:V × V × V}(h:LQ l=af x):l= [x.1,x.2.1,x.2.2]:=by
 induction l using aC with
 |nil=>exact kY h
 |cons y r=>
  induction r using aC with
  |nil=>exact kY h
  |cons y r=>
   induction r using aC with
   |nil=>exact kY h
   |cons y r=>induction r using aC<;>first|exact sj h▸rfl|exact kY h
section
variable{t:au}
theorem wM(h:zB t=af x):∃p,t= .Name x p:=by
 induction t using bg<;>first|exact sj h▸⟨_,rfl⟩|exact kY h
theorem VN{x:List au}(h:VD t=af x):∃k p,t= .Tuple x k p:=by
 induction t using bg<;>first|exact sj h▸⟨_,_,rfl⟩|exact kY h
theorem RR{x:au × au}(h:SV t=af x):∃p,t= .Subscript x.1 x.2 p:=by
 induction t using bg<;>first|exact sj h▸⟨_,rfl⟩|exact kY h
theorem G7{x:au × Str × Pos}(h:II t=af x):t= .Attribute x.1 x.2.1 x.2.2:=by
 induction t using bg<;>first|exact sj h▸rfl|exact kY h
theorem G8{x:au × List au × Pos}(h:Dq t=af x):t= .Call x.1 x.2.1 [] x.2.2:=by
 induction t using bg with
 |Call f as ks p=>induction ks using aC<;>first|exact sj h▸rfl|exact kY h
 |_=>exact kY h
end
theorem VO{t:fY}{x:List au × au}(h:VE t=af x):∃p,t= .Assign x.1 x.2 p:=by
 induction t using pR<;>first|exact sj h▸⟨_,rfl⟩|exact kY h
theorem RT{t:fY}{x:au}(h:SW t=af x):∃p,t= .Return (af x) p:=by
 induction t using pR with
 |Return v p=>induction v using aw<;>first|exact sj h▸⟨_,rfl⟩|exact kY h
 |_=>exact kY h
theorem Th{t:ExceptHandler}{x:Str × Option Str × List fY}(h:RN t=af x):∃tp a b p,t= .ExceptHandler (af (.Name x.1 tp)) x.2.1 (a::b) p/\x.2.2=a::b:=by
 induction t using PySem.ExceptHandler.casesOn with
 |ExceptHandler ty n b p=>
  induction ty using aw with
  |none=>exact kY h
  |some ty=>
   induction b using aC with
   |nil=>exact kY h
   |cons a b=>exact el (bY.mp h) λy h=>el (wM h.1) λtp q=>h.2▸⟨tp,a,b,p,q▸rfl,rfl⟩
theorem JX{a:fY}{x:Str × au}(h:IK a=af x):notAttr x.2=ao/\∃px pc q,a= .Assign [.Name x.1 px] (.Call x.2 [] [] pc) q:=by
 refine el (dq.mp h) λts h=>?_;refine el (dq.mp h.2) λy h'=>?_;refine el (dq.mp h'.1) λt h1=>?_;refine el (dq.mp h'.2) λg h2=>Lu h2.2 λh3 h4=>?_;rw [aS,sb] at h3;refine el (VO h.1) λq e1=>el (wM h1.2) λpx e2=>?_;have e3:=G8 h2.1;rw [h3.2] at e3;have e4:=sj h4;subst e4;exact ⟨h3.1,px,g.2.2,q,by rw [e1,AJ h1.1,e2,e3]⟩
theorem JY{a:fY}{x:au × Str}(h:IL a=af x):∃ap pc q,a= .Return (af (.Call (.Attribute x.1 x.2 ap) [] [] pc)) q/\baseOk x.1=ao/\(ap.endLine==pc.line)=ao:=by
 refine el (dq.mp h) λg h=>?_;refine el (dq.mp h.1) λy h1=>?_;refine el (dq.mp h.2) λo h2=>Lu h2.2 λh3 h4=>?_;rw [aS,aS,sb] at h3;have e4:=sj h4;subst e4;have e3:=G8 h1.2;rw [h3.2,G7 h2.1] at e3;exact el (RT h1.1) λq e1=>⟨o.2.2,g.2.2,q,by rw [e1,e3],h3.1.1,h3.1.2⟩
def cB(ρ:List bk):V->ay->Prop
 | .none,v=>v= .none
 | .bool b,v=>v= .bool b
 | .int i,v=>∃t,v= .int i t
 | .str s,v=>∃t,v= .str s t
 | .ref i,v=>∃a,ρ[i]? =af a/\v= .ref a
 | .top a,v=>v= .ref a
 | .type n,v=>v= .type n
 | .bi id,v=>v= .builtin id
def bM(ρ:List bk):List V->List ay->Prop
 | [],[]=>True
 |x::xs,y::ys=>cB ρ x y/\bM ρ xs ys
 |_,_=>False
def n8(ρ:List bk):Option V->Option ay->Prop
 |none,v=>v=ae
 |some x,v=>∃y,v=af y/\cB ρ x y
def cY(ρ:List bk):List (K × V)->List (K × ay)->Prop
 | [],[]=>True
 |x::xs,y::ys=>(x.1=y.1/\cB ρ x.2 y.2)/\cY ρ xs ys
 |_,_=>False
def CE[DecidableEq K](knd:KeyKind pr w K)(ρ:List bk)(es:List (K × V))(o:Obj):Prop:=
 ∃ds n kvs,o.ExactDict/\o.data= .dict ds n/\KeysOf knd ds/\Pairs knd ds.toList kvs/\(kvs.map (·.1)).Nodup/\cY ρ es kvs
def VP[DecidableEq K](knd:KeyKind pr w K)(xs:List K)(o:Obj):Prop:=
 ∃es n t,o.ExactSet/\o.data= .set es n t/\ElemsOf knd es.toList/\(∀k,decide (k∈xs)=ao↔∃e∈es.toList,knd.is k e.2=ao)/\es.size<scanBound/\t.fits es.size=ao/\es.size=xs.length
def ou(pr:qJ)(w:jw)(ρ:List bk):O->Obj->Prop
 | .list xs,o=>∃ys n,o=⟨.type "list",ae,.seq ys n,#[]⟩/\bM ρ xs ys.toList/\ys.size<=1000000
 | .tuple xs,o=>∃ys n,o=⟨.type "tuple",ae,.seq ys n,#[]⟩/\bM ρ xs ys.toList/\ys.size<=1000000
 | .dict es,o=>CE (strKind pr w) ρ es o/\es.length<=1000000
 | .qt es,o=>CE (iO pr w) ρ es o
 | .set xs,o=>VP (strKind pr w) xs o
 | .B5 xs,o=>VP (iO pr w) xs o
 | .inst C d,o=>∃a,ρ[d]? =af a/\o=⟨.ref C,af a,.plain,#[]⟩
 | .ns es,o=>∃ds n,o.data= .dict ds n/\StrKeys ds/\UniqKeys ds/\∀x,n8 ρ (lookE es x) (tB ds x)
 | .slots C d vs,o=>∃a sl,ρ[d]? =af a/\o=⟨.ref C,af a,.plain,sl⟩/\sl.size<=vs.length/\∀k:Nat,n8 ρ (vs[k]?).join (sl[k]?).join
 | .exc C t,o=>∃a fs,ρ[t]? =af a/\o.cls= .ref C/\o.data= .fields fs/\fs[0]? =af (.ref a)
 | .kP l k,o=>∃a,ρ[l]? =af a/\o=⟨.type "list_iterator",ae,.fields #[.ref a,.int k 0],#[]⟩
 | .dead,o=>o.isFreed=bf
 | .next it,o=>∃a,ρ[it]? =af a/\o=⟨.type "method-wrapper",ae,.fields #[.builtin "list_iterator.__next__",.ref a],#[]⟩
 | .range a b c,o=>∃x y z,o=⟨.type "range",ae,.fields #[.int a x,.int b y,.int c z],#[]⟩
 | .values d,o=>∃a,ρ[d]? =af a/\o=⟨.type "dict_values",ae,.fields #[.ref a],#[]⟩
def Ext(ρ ρ':List bk):Prop:=∃m,ρ'=ρ++m
theorem Ext.refl(ρ:List bk):Ext ρ ρ:=⟨[],by simp⟩
theorem Ext.trans{a b c:List bk}:Ext a b->Ext b c->Ext a c
 |⟨m,e⟩,⟨m',e'⟩=>⟨m++m',by rw [e',e,aQ]⟩
theorem Ext.at(x:Ext ρ ρ')(h:ρ[i]? =af a):ρ'[i]? =af a:=by
 obtain ⟨m,rfl⟩:=x;have:i<ρ.length:=by
  rcases ew i ρ.length with q|q
  ·exact q
  ·rw [eG q] at h;injection h
 refine (aJ this).trans ?_;exact h
theorem cB.ext(x:Ext ρ ρ'){y:ay}(h:cB ρ v y):cB ρ' v y:=by
 induction v using V.casesOn<;>first|exact h|(refine aR h λa h1 h2=>?_;exact ⟨a,x.at h1,h2⟩)
theorem bM.by{P:List V->List ay->Prop}(h0:P [] [])(h1:∀x xs y ys,cB ρ x y->bM ρ xs ys->P xs ys->P (x::xs) (y::ys))(h:bM ρ xs ys):P xs ys:=by
 induction xs generalizing ys with
 |nil=>induction ys using aC with
  |nil=>exact h0
  |cons _ _=>exact h.elim
 |cons x xs ih=>induction ys using aC with
  |nil=>exact h.elim
  |cons y ys=>exact h1 _ _ _ _ h.1 h.2 (ih h.2)
theorem cY.by{P:List (K × V)->List (K × ay)->Prop}(h0:P [] [])(h1:∀k x xs y ys,cB ρ x y->cY ρ xs ys->P xs ys->P ((k,x)::xs) ((k,y)::ys)){xs:List (K × V)}{ys:List (K × ay)}(h:cY ρ xs ys):P xs ys:=by
 induction xs generalizing ys with
 |nil=>induction ys using aC with
  |nil=>exact h0
  |cons _ _=>exact h.elim
 |cons x xs ih=>induction ys using aC with
  |nil=>exact h.elim
  |cons y ys=>
   obtain ⟨a,v⟩:=x;obtain ⟨b,w⟩:=y;obtain rfl:a=b:=h.1.1;exact h1 _ _ _ _ _ h.1.2 h.2 (ih h.2)
theorem bM.ext(x:Ext ρ ρ')(h:bM ρ xs ys):bM ρ' xs ys:=
 h.by (P:=bM ρ') trivial λ_ _ _ _ a _ b=>⟨a.ext x,b⟩
theorem n8.ext(x:Ext ρ ρ'){v:Option V}{y:Option ay}(h:n8 ρ v y):n8 ρ' v y:=by
 induction v using aw with
 |none=>exact h
 |some v=>refine aR h λz e r=>?_;exact ⟨z,e,r.ext x⟩
theorem cY.ext(x:Ext ρ ρ'){xs:List (K × V)}{ys:List (K × ay)}(h:cY ρ xs ys):cY ρ' xs ys:=
 h.by (P:=cY ρ') trivial λ_ _ _ _ _ a _ b=>⟨⟨rfl,a.ext x⟩,b⟩
theorem CE.ext[DecidableEq K]{knd:KeyKind pr w K}(x:Ext ρ ρ'){es:List (K × V)}{o:Obj}(h:CE knd ρ es o):CE knd ρ' es o:=
 el h λds h=>el h λn h=>el h λkvs h=>⟨ds,n,kvs,h.1,h.2.1,h.2.2.1,h.2.2.2.1,h.2.2.2.2.1,h.2.2.2.2.2.ext x⟩
theorem ou.ext(x:Ext ρ ρ'){o:O}{r:Obj}(h:ou pr w ρ o r):ou pr w ρ' o r:=by
 induction o using O.casesOn with
 |list xs=>refine ck h λys n e r z=>?_;exact ⟨ys,n,e,r.ext x,z⟩
 |tuple xs=>refine ck h λys n e r z=>?_;exact ⟨ys,n,e,r.ext x,z⟩
 |dict es=>exact ⟨h.1.ext x,h.2⟩
 |qt es=>exact CE.ext x h
 |B5 xs=>exact h
 |dead=>exact h
 |set xs=>exact h
 |inst C d=>refine aR h λa h1 h2=>?_;exact ⟨a,x.at h1,h2⟩
 |ns es=>refine ey h λds n h1 h2 h3 h4=>?_;exact ⟨ds,n,h1,h2,h3,λy=>(h4 y).ext x⟩
 |slots C d vs=>refine ey h λa sl h0 h1 h2 h3=>?_;exact ⟨a,sl,x.at h0,h1,h2,λk=>(h3 k).ext x⟩
 |exc C t=>refine gk h λa fs h1 h2=>?_;exact ⟨a,fs,x.at h1,h2⟩
 |kP l k=>refine aR h λa h1 h2=>?_;exact ⟨a,x.at h1,h2⟩
 |next it=>refine aR h λa h1 h2=>?_;exact ⟨a,x.at h1,h2⟩
 |range a b c=>exact h
 |values d=>refine aR h λa h1 h2=>?_;exact ⟨a,x.at h1,h2⟩
theorem ou.alive{o:O}{r:Obj}(h:ou pr w ρ o r):r.isFreed=bf:=by
 induction o using O.casesOn with
 |exc C t=>refine ey h λa fs _ _ e _=>?_;obtain ⟨c,d,dt,sl⟩:=r;subst e;rfl
 |list xs=>refine gk h λ_ _ q'1 _=>?_;obtain rfl:=q'1;rfl
 |tuple xs=>refine gk h λ_ _ q'2 _=>?_;obtain rfl:=q'2;rfl
 |dict xs=>obtain ⟨⟨_,_,_,_,e,_⟩,_⟩:=h;obtain ⟨c,d,dt,sl⟩:=r;subst e;rfl
 |qt xs=>refine jo h λ_ _ _ _ e _=>?_;obtain ⟨c,d,dt,sl⟩:=r;subst e;rfl
 |set xs=>refine jo h λ_ _ _ _ e _=>?_;obtain ⟨c,d,dt,sl⟩:=r;subst e;rfl
 |B5 xs=>refine jo h λ_ _ _ _ e _=>?_;obtain ⟨c,d,dt,sl⟩:=r;subst e;rfl
 |dead=>exact h
 |inst C d=>refine aR h λ_ _ q'3=>?_;obtain rfl:=q'3;rfl
 |ns es=>refine gk h λ_ _ e _=>?_;obtain ⟨c,d,dt,sl⟩:=r;subst e;rfl
 |slots C d vs=>refine ck h λ_ _ _ q'4 _=>?_;obtain rfl:=q'4;rfl
 |kP l k=>refine aR h λ_ _ q'5=>?_;obtain rfl:=q'5;rfl
 |next l=>refine aR h λ_ _ q'6=>?_;obtain rfl:=q'6;rfl
 |range a b c=>refine sO h λ_ _ _ q'7=>?_;obtain rfl:=q'7;rfl
 |values d=>refine aR h λ_ _ q'8=>?_;obtain rfl:=q'8;rfl
structure Rep(h₀:pO)(pr:qJ)(w:jw)(ρ:List bk)(σ:List O)(h:pO):Prop where
 len:ρ.length=σ.length
 nd:ρ.Nodup
 new:∀a∈ρ,h₀.get? a=ae
 obj:∀(i:Nat) (o:O),σ[i]? =af o->∃(a:bk) (r:Obj),ρ[i]? =af a/\h.get? a=af r/\ou pr w ρ o r
 keep:∀b o,h₀.get? b=af o->h.get? b=af o
section
variable{h₀:pO}
theorem Rep.lt(R:Rep h₀ pr w ρ σ h)(ha:a∈ρ):a<h.objs.size:=by
 obtain ⟨i,hi,e⟩:=oh ha;have hσ:i<σ.length:=R.len▸hi;refine ck (R.obj i σ[i] (di hσ)) λb r h1 h2 _=>?_;rw [di hi,e] at h1;(injection h1 with h1;subst h1);exact du h2
theorem Rep.fresh(R:Rep h₀ pr w ρ σ h):h₀.get? h.objs.size=ae:=by
 induction q:h₀.get? h.objs.size using aw with
 |none=>rfl
 |some o=>exact absurd (du (R.keep _ _ q)) (aX _)
theorem Rep.Pr(R:Rep h₀ pr w ρ σ h)(ha:h.objs.size<=a):h₀.get? a=ae:=by
 induction q:h₀.get? a using aw with
 |none=>rfl
 |some o=>exact absurd (du (R.keep _ _ q)) (cD.mpr ha)
theorem Rep.other(R:Rep h₀ pr w ρ σ h)(hk:∀b o,h.get? b=af o->(b∈ρ∨h₀.get? b=af o)->h'.get? b=af o):Rep h₀ pr w ρ σ h':=
 ⟨R.len,R.nd,R.new,λi o ho=>by
  refine ck (R.obj i o ho) λa r h1 h2 h3=>?_;exact ⟨a,r,h1,hk a r h2 (.inl (bN h1)),h3⟩,λb o hb=>hk b o (R.keep b o hb) (.inr hb)⟩
theorem Rep.push(R:Rep h₀ pr w ρ σ h)(r:Obj):Rep h₀ pr w ρ σ (h.push r):=R.other λ_ _ e _=>aP _ e
theorem Rep.alloc(R:Rep h₀ pr w ρ σ h){o:O}{r:Obj}(hr:ou pr w ρ o r):Rep h₀ pr w (ρ++ [h.objs.size]) (σ++ [o]) (h.push r):=by
 have x:Ext ρ (ρ++ [h.objs.size]):=⟨_,rfl⟩;refine ⟨by simp [R.len],?_,?_,?_,λb o hb=>aP _ (R.keep b o hb)⟩
 ·refine (bo).mpr ?_;exact ⟨R.nd,by exact iK rfl,λa ha b hb=>by simp at hb;subst hb;exact bP (R.lt ha)⟩
 ·intro a ha;rcases aG.mp ha with ha|ha
  ·exact R.new a ha
  ·simp at ha;subst ha;exact R.fresh
 ·intro i o' ho;rcases ew i σ.length with q|q
  ·rw [aJ q] at ho;refine ck (R.obj i o' ho) λa r' h1 h2 h3=>?_;exact ⟨a,r',x.at h1,aP _ h2,h3.ext x⟩
  ·rw [bT q] at ho;have:i-σ.length=0:=by
    rcases w6 (i-σ.length) with z|z
    ·exact z
    ·rw [eG (by simp;exact z)] at ho;injection ho
   rw [this] at ho;simp at ho;subst ho;have hi:i=ρ.length:=by refine R.len▸ ?_;exact ib (mA this) q
   subst hi;exact ⟨h.objs.size,r,by simp,dh _ hr.alive,hr.ext x⟩
theorem Rep.setAt(R:Rep h₀ pr w ρ σ h){o:O}{r:Obj}(hi:ρ[i]? =af a)(hs:ip a h h')(hr:h'.get? a=af r)(hf:ou pr w ρ o r):Rep h₀ pr w ρ (σ.set i o) h':=by
 have Co:=bN hi;have l1:i<ρ.length:=by
  rcases ew i ρ.length with q|q
  ·exact q
  ·rw [eG q] at hi;injection hi
 refine ⟨by rw [dI];exact R.len,R.nd,R.new,λj o' ho=>?_,λb o' hb=>?_⟩
 ·by_cases hij:i=j
  ·subst hij;rw [dX (by rw [←R.len];exact l1)] at ho;(injection ho with ho;subst ho);exact ⟨a,r,hi,hr,hf⟩
  ·rw [bH hij] at ho;refine ck (R.obj j o' ho) λb r' h1 h2 h3=>?_;refine ⟨b,r',h1,?_,h3⟩;rw [hs.2 b ?_]
   ·exact h2
   ·rintro rfl;exact hij ((iq l1 R.nd).mp (hi.trans h1.symm))
 ·rw [hs.2 b ?_]
  ·exact R.keep b o' hb
  ·rintro rfl;rw [R.new _ Co] at hb;injection hb
end
noncomputable def own(env:Env):List bk:=env.locals::env.cells.map (·.2)
structure Up where
 sc:Scope
 vals:eB
 fz:List Nat
 kE:List bk
structure Wr where
 own:List bk
 fz:List Nat
 loc:List bk
 kE:List bk
noncomputable def wr(up:Up)(env:Env):Wr:=⟨own env++up.kE,up.fz,own env,up.kE⟩
def mu(ρ:List bk):Option V->Option ay->Prop
 |none,_=>True
 |some x,v=>∃y,v=af y/\cB ρ x y
theorem mu.ext(x:Ext ρ ρ'){v:Option V}{y:Option ay}(h:mu ρ v y):mu ρ' v y:=by
 induction v using aw with
 |none=>trivial
 |some v=>refine aR h λz e r=>?_;exact ⟨z,e,r.ext x⟩
structure VQ(ρ:List bk)(fr:eB)(up:Up)(env:Env)(h:pO):Prop where
 loc:∃m,h.Ns env.locals m/\∀x,up.sc.names.lookup x=af .local->env.kindOf x=af .local/\mu ρ (getF fr x) (m x)
 G9:∀x,up.sc.names.lookup x=af .cell->env.kindOf x=af .cell/\∃(c:bk) (o:Obj) (v:Option ay),env.cells.lookup x=af c/\h.get? c=af o/\o.data= .cell v/\mu ρ (getF fr x) v
 EU:∀x,up.sc.names.lookup x=af .free->(env.kindOf x=af .cell∨env.kindOf x=af .free)/\∃(c:bk) (o:Obj) (v:Option ay),env.cells.lookup x=af c/\h.get? c=af o/\o.data= .cell v/\mu ρ (getF up.vals x) v
 OZ:∀x,up.sc.names.lookup x=af .globalImplicit->env.kindOf x=af .globalImplicit
theorem VQ.keep{up:Up}(F:VQ ρ fr up env h)(x:Ext ρ ρ')(hk:∀a∈own env,∀o,h.get? a=af o->h'.get? a=af o):VQ ρ' fr up env h':=by
 have cm:∀(y:Str) (c:bk) (l:List (Str × bk)),l.lookup y=af c->c∈l.map (·.2):=by
  intro y c l;induction l with
  |nil=>intro h;injection h
  |cons p r ih=>
   intro h;rw [cz] at h;split at h
   ·(injection h with h;subst h);exact fm
   ·exact i8 _ (ih h)
 refine ⟨?_,λy hy=>?_,λy hy=>?_,F.OZ⟩
 ·refine aR F.loc λm q'1 hm=>?_;obtain ⟨o,es,n,h1,h2,h3⟩:=q'1;exact ⟨m,⟨o,es,n,hk _ (fm ..) _ h1,h2,h3⟩,λy hy=>⟨(hm y hy).1,(hm y hy).2.ext x⟩⟩
 ·refine d7 (F.G9 y hy) λk r'2=>?_;refine b9 r'2 λc o v h1 h2 h3 h4=>?_;exact ⟨k,c,o,v,h1,hk _ (i8 _ (cm y c _ h1)) _ h2,h3,h4.ext x⟩
 ·refine d7 (F.EU y hy) λk r'3=>?_;refine b9 r'3 λc o v h1 h2 h3 h4=>?_;exact ⟨k,c,o,v,h1,hk _ (i8 _ (cm y c _ h1)) _ h2,h3,h4.ext x⟩
structure lH where
 pr:qJ
 w:jw
 h₀:pO
 K:r8
 aj:List (bk × O)
 isIn:K.In h₀
 top:∀a o,aj.lookup a=af o->∃r,h₀.get? a=af r/\ou pr w [] o r
 Ha:∀a o,aj.lookup a=af o->(a==sysModules)=bf
 VR:∃o,h₀.get? sysModules=af o
 ie:List bk
 args:∀{A:iW}{E:ay->aM->Prop}{s:aM}{a C t0:bk}{o:Obj}{fs:Array ay}{Q:ay->aM->Prop},C∈ie->(∀b o,h₀.get? b=af o->s.heap.get? b=af o)->
  s.heap.get? a=af o->o.cls= .ref C->o.data= .fields fs->fs[0]? =af (.ref t0)->Q (.ref t0) {s with toks:=s.toks+1}->wpAny (model pr w) A (oE (.ref a) "args" ao) Q E s
 lim:h₀.NoLimit
 gl:∃mg,h₀.Ns gu mg
 bl:∃mb,h₀.Ns builtinsNs mb/\∀x:Str,x≠("__name__" :Str)->mb x=tA x
structure ej(c:Cx)(B:lH):Prop where
 K:c.K=B.K
 aj:c.aj=B.aj
 ie:c.ie=B.ie
structure VS(env:Env):Prop where
 kind:env.scope.kind= .function
 glob:env.globals=gu
 blt:env.builtins=builtinsNs
structure Fits(B:lH)(ρ:List bk)(σ:List O)(fr:eB)(up:Up)(env:Env)(fl:List Env)(s:aM):Prop where
 rep:Rep B.h₀ B.pr B.w ρ σ s.heap
 mv:VQ ρ fr up env s.heap
 ok:VS env
 rM:∀a∈own env,a∉ρ
 oW:∀a∈own env,B.h₀.get? a=ae
 jK:∀a∈own env,∃o,s.heap.get? a=af o
 mF:env.locals∉env.cells.map (·.2)
 oY:∀x y c,env.cells.lookup x=af c->env.cells.lookup y=af c->x=y
 gens:s.gens= #[]
 L8:∀e∈fl,e.scope.kind≠ .module/\∃L∈up.kE,e.frame=af L
 Dt:∀L∈up.kE,B.h₀.get? L=ae/\L∉ρ/\L∉env.cells.map (·.2)/\∃o es n,s.heap.get? L=af o/\o.data= .dict es n
structure Step(ρ:List bk)(W:Wr)(s:aM)(ρ':List bk)(s':aM):Prop where
 ext:∃m,ρ'=ρ++m/\∀a∈m,s.heap.get? a=ae
 live:∀b o,s.heap.get? b=af o->∃o',s'.heap.get? b=af o'
 keep:∀b o,s.heap.get? b=af o->(b∉ρ∨∃i∈W.fz,ρ[i]? =af b)->b∉W.own->s'.heap.get? b=af o
 wN:∀b∈W.kE,b∉W.loc->∀o,s.heap.get? b=af o->∃o',s'.heap.get? b=af o'/\o'.data=o.data
 gens:s'.gens=s.gens
 os:s'.os=s.os
 drawn:s'.drawn=s.drawn
theorem Step.ext'{ρ W s ρ' s'}(x:Step ρ W s ρ' s'):Ext ρ ρ':=let ⟨m,e,_⟩:=x.ext;⟨m,e⟩
theorem Step.refl{ρ W s}:Step ρ W s ρ s:=⟨⟨[],by simp,λ_ h=>nomatch h⟩,λ_ o e=>⟨o,e⟩,λ_ _ e _ _=>e,λ_ _ _ o e=>⟨o,e,rfl⟩,rfl,rfl,rfl⟩
theorem Step.toks{ρ W}:Step ρ W s ρ {s with toks:=tk}:=⟨⟨[],by simp,λ_ h=>nomatch h⟩,λ_ o e=>⟨o,e⟩,λ_ _ e _ _=>e,λ_ _ _ o e=>⟨o,e,rfl⟩,rfl,rfl,rfl⟩
theorem Step.trans{ρ W s ρ_1 s₁ ρ_2 s_2}(x:Step ρ W s ρ_1 s₁)(y:Step ρ_1 W s₁ ρ_2 s_2):Step ρ W s ρ_2 s_2:=by
 refine aR x.ext λm e hm=>?_;refine aR y.ext λm' e' hm'=>?_;refine ⟨⟨m++m',by rw [e',e,aQ],λa ha=>?_⟩,λb o hb=>let ⟨o',h'⟩:=x.live b o hb;y.live b o' h',λb o hb h1 h2=>?_,λb hb hl o e=>let ⟨o_1,e_1,d₁⟩:=x.wN b hb hl o e;let ⟨o_2,e_2,d_2⟩:=y.wN b hb hl o_1 e_1;⟨o_2,e_2,d_2.trans d₁⟩,y.gens.trans x.gens,y.os.trans x.os,y.drawn.trans x.drawn⟩
 ·rcases aG.mp ha with ha|ha
  ·exact hm a ha
  ·induction q:s.heap.get? a using aw with
   |none=>rfl
   |some o=>
    obtain ⟨o',h'⟩:=x.live a o q;rw [hm' a ha] at h';injection h'
 ·refine y.keep b o (x.keep b o hb h1 h2) ?_ h2;rcases h1 with h1|⟨i,hi,h1⟩
  ·refine .inl ?_;refine e▸ ?_;intro hq;rcases aG.mp hq with hq|hq
   ·exact h1 hq
   ·rw [hm b hq] at hb;injection hb
  ·exact .inr ⟨i,hi,x.ext'.at h1⟩
theorem Fits.step{B ρ σ fr up env fl s ρ' σ' et s'}(F:Fits B ρ σ fr up env fl s)(x:Step ρ (wr up env) s ρ' s')(R:Rep B.h₀ B.pr B.w ρ' σ' s'.heap)(Fr':VQ ρ' et up env s'.heap):Fits B ρ' σ' et up env fl s':=by
 refine aR x.ext λm e hm=>?_;have Sl:∀a,(∃o,s.heap.get? a=af o)->a∉ρ->a∉ρ':=λa ha h1 h2=>by
  rw [e] at h2;rcases aG.mp h2 with q|q
  ·exact h1 q
  ·obtain ⟨o,ha⟩:=ha;rw [hm a q] at ha;injection ha
 refine ⟨R,Fr',F.ok,λa ha=>Sl a (F.jK a ha) (F.rM a ha),F.oW,λa ha=>let ⟨o,h⟩:=F.jK a ha;x.live a o h,F.mF,F.oY,x.gens.trans F.gens,F.L8,λL W9=>?_⟩;refine iA (F.Dt L W9) λh3 h4 h5 r'4=>?_;refine gj r'4 λo es n h6 h7=>?_;refine ⟨h3,Sl L ⟨o,h6⟩ h4,h5,?_⟩;by_cases hL:L=env.locals
 ·subst hL;refine aR Fr'.loc λm' q'5 _=>?_;obtain ⟨o',es',n',q1,q2,_⟩:=q'5;exact ⟨o',es',n',q1,q2⟩
 ·have hno:L∉own env:=by
   unfold own;intro hq;rcases jJ hq with q|q
   ·exact hL q
   ·exact h5 q
  refine aR (x.wN L W9 hno o h6) λo' e' d'=>?_;exact ⟨o',es,n,e',d'.trans h7⟩
theorem Fits.kE{B ρ σ fr up env fl s}(F:Fits B ρ σ fr up env fl s):∀e∈fl,e.scope.kind≠ .module/\∃L,e.frame=af L/\B.h₀.get? L=ae/\L∉ρ/\L∉env.cells.map (·.2)/\∃o es n,s.heap.get? L=af o/\o.data= .dict es n:=λe he=>
 let ⟨h1,L,h2,h3⟩:=F.L8 e he;⟨h1,L,h3,F.Dt L h2⟩
theorem Fits.xD{B ρ σ fr up env fl s}(F:Fits B ρ σ fr up env fl s)(h:s.heap.get? a=ae):a∉up.kE:=λhm=>by
 refine iA (F.Dt a hm) λ_ _ _ r'6=>?_;refine gj r'6 λo _ _ h6 _=>?_;rw [h] at h6;injection h6
theorem Fits.Ti{B ρ σ fr up env fl s}(F:Fits B ρ σ fr up env fl s)(h:a∈ρ):a∉(wr up env).own:=λhm=>by
 rcases aG.mp hm with hm|hm
 ·exact F.rM a hm h
 ·exact (F.Dt a hm).2.1 h
structure Lv where
 n:Nat
 hd:Bool
structure kF(A:iW)(k:Lv):Prop where
 depth:A.depth+2*k.n<recursionLimit
 units:A.units+20*k.n+200<cLine
 hd:k.hd=ao->A.handled=ae
def Go(B:lH)(k:Lv)(env:Env)(fl:List Env)(up:Up)(Pre:List bk->Prop)(m:Sem α)(fr:eB)(σ:List O)(R:List bk->α->Prop)(et:eB)(σ':List O):Prop:=
 ∀(A:iW) (ρ:List bk) (s:aM) (Q:α->aM->Prop) (E:ay->aM->Prop),kF A k->A.frames=af fl->Fits B ρ σ fr up env fl s->Pre ρ->
  (∀ρ' s' a,Step ρ (wr up env) s ρ' s'->Fits B ρ' σ' et up env fl s'->R ρ' a->Q a s')->wpAny (model B.pr B.w) A m Q E s
section
variable{B:lH}{k:Lv}{up:Up}{C7 wu:eB}{σ_1 σ_2:List O}{R:List bk->α->Prop}{R':List bk->β->Prop}
theorem Fits.toks(F:Fits B ρ σ fr up env fl s)(tk:Nat):Fits B ρ σ fr up env fl {s with toks:=tk}:=⟨F.rep,F.mv,F.ok,F.rM,F.oW,F.jK,F.mF,F.oY,F.gens,F.L8,F.Dt⟩
end
variable{B:lH}{up:Up}
section
variable{k:Lv}{C7 wu:eB}{σ_1 σ_2:List O}
theorem EW(h:¬z6 x=ao):(x==("__debug__" :Str))=bf/\x≠("__name__" :Str)/\(x==("__classdict__" :Str))=bf:=by
 unfold z6 at h;simp only [eA,not_or] at h;obtain ⟨⟨h1,h2⟩,h3⟩:=h;refine ⟨by simpa using h1,λe=>h2 (by rw [e];rfl),by simpa using h3⟩
theorem Fits.base(F:Fits B ρ σ fr up env fl s):∀b o,B.h₀.get? b=af o->s.heap.get? b=af o:=F.rep.keep
theorem Fits.isIn(F:Fits B ρ σ fr up env fl s):B.K.In s.heap:=B.isIn.keeps F.base
theorem cB.kj{v:ay}{x:V}(h:kj v=af x):cB ρ x v:=by
 induction v using iN<;>first|(cases h;first|rfl|exact ⟨_,rfl⟩)|injection h
theorem CF{y:V}{s':eP}(hK:c.K=B.K)(F:Fits B ρ σ fr up env fl s)(e:zy c up.sc up.vals x up.fz ⟨fr,σ⟩=af (y,s')):
  s'=⟨fr,σ⟩/\∀{Q:ay->aM->Prop},(∀v,cB ρ y v->Q v s)->wpAny (model B.pr B.w) A (eval (.Name x pos) env) Q E s:=by
 dsimp only [zy] at e;by_cases hb:z6 x=ao
 ·rw [if_pos hb] at e;exact kY e
 rw [if_neg hb] at e;refine cW (EW hb) λd1 d2 d3=>?_;induction hk:up.sc.names.lookup x using aw with
 |none=>rw [hk] at e;exact kY e
 |some kd=>
  rw [hk] at e;induction kd using tC with
  |globalExplicit=>exact kY e
  |«local»=>
   refine aR (bY.mp (show (getF fr x).map (λv=>(v,(⟨fr,σ⟩:eP)))=af (y,s') from e)) λv hv e'=>?_;obtain ⟨⟩:=e';refine ⟨rfl,λq=>w7 ?_ d1⟩;refine aR F.mv.loc λm hn hm=>?_;obtain ⟨hk',this⟩:=hm x hk;rw [show getF fr x=af y from hv] at this;refine aR this λz hz r=>?_;exact wpAny_loadName_local F.ok.kind hk' hn hz (q z r)
  |cell=>
   refine aR (bY.mp (show (getF fr x).map (λv=>(v,(⟨fr,σ⟩:eP)))=af (y,s') from e)) λv hv e'=>?_;obtain ⟨⟩:=e';refine ⟨rfl,λq=>w7 ?_ d1⟩;refine d7 (F.mv.G9 x hk) λhk' r'1=>?_;refine b9 r'1 λc o v h1 h2 h3 h4=>?_;rw [hv] at h4;refine aR h4 λz hz r=>?_;subst hz;exact vV F.ok.kind hk' h1 ⟨o,h2,h3⟩ (q z r)
  |free=>
   refine aR (bY.mp (show (getF up.vals x).map (λv=>(v,(⟨fr,σ⟩:eP)))=af (y,s') from e)) λv hv e'=>?_;obtain ⟨⟩:=e';refine ⟨rfl,λq=>w7 ?_ d1⟩;refine d7 (F.mv.EU x hk) λhk' r'2=>?_;refine b9 r'2 λc o v h1 h2 h3 h4=>?_;rw [hv] at h4;refine aR h4 λz hz r=>?_;subst hz;rcases hk' with hk'|hk'
   ·exact vV F.ok.kind hk' h1 ⟨o,h2,h3⟩ (q z r)
   ·exact wpAny_loadName_free F.ok.kind hk' h1 ⟨o,h2,h3⟩ (q z r) d3
  |globalImplicit=>
   dsimp only at e;rw [hK] at e;obtain ⟨mg,hg⟩:=B.gl;refine aR B.bl λmb hb' hbb=>?_;have hg':=hg.keeps F.base;have Zg:=hb'.keeps F.base;have load:∀{Q:ay->aM->Prop},wpAny (model B.pr B.w) A (loadGlobal env x) Q E s->wpAny (model B.pr B.w) A (eval (.Name x pos) env) Q E s:=λh=>w7 (by refine (loadName_read F.ok.kind (F.mv.OZ x hk))▸ ?_;exact h) d1;induction hv:nsIn B.K gu x using aw with
   |none=>rw [hv] at e;exact kY e
   |some o=>
    rw [hv] at e;induction o using aw with
    |none=>
     refine aR (bY.mp (show ((tA x).bind Internal.kj).map (λv=>(v,(⟨fr,σ⟩:eP)))=af (y,s') from e)) λv hv' e'=>?_;obtain ⟨⟩:=e';refine ⟨rfl,λq=>load ?_⟩;dsimp only [loadGlobal];rw [F.ok.glob,F.ok.blt];refine aB (zS hg' ?_);refine (mg_none_of B.isIn hg hv)▸ ?_;refine aR (dq.mp hv') λv' Zh e'=>?_;refine aB (zS Zg ?_);rw [hbb x d2,Zh];exact bF (q v' (.kj e'))
    |some u=>
     refine aR (bY.mp (show (Internal.kj u).map (λv=>(v,(⟨fr,σ⟩:eP)))=af (y,s') from e)) λv hv' e'=>?_;obtain ⟨⟩:=e';refine ⟨rfl,λq=>load ?_⟩;dsimp only [loadGlobal];rw [F.ok.glob,F.ok.blt];refine aB (zS hg' ?_);refine (mg_of B.isIn hg hv)▸ ?_;exact bF (q u (.kj hv'))
end
theorem mem_lookup{c:β}:∀{l:List (Str × β)},l.lookup x=af c->c∈l.map (·.2)
 |(y,d)::r,h=>by
  rw [cz] at h;split at h
  ·obtain ⟨⟩:=h;exact fm
  ·exact i8 _ (mem_lookup h)
theorem b6(fr:eB)(x y:Str)(v:V):getF (putF fr x v) y=if y=x then af v else getF fr y:=by
 induction fr with
 |nil=>
  simp only [putF,getF];by_cases h:y=x
  ·subst h;rfl
  ·rw [if_neg (λe=>h e.symm),if_neg h]
 |cons p r ih=>
  obtain ⟨z,u⟩:=p;simp only [putF];by_cases hz:z=x
  ·refine (if_pos hz)▸ ?_;simp only [getF];by_cases h:y=x
   ·subst h;rw [if_pos hz,if_pos rfl]
   ·rw [if_neg (λe=>h (e.symm.trans hz)),if_neg h,if_neg (λe=>h (e.symm.trans hz))]
  ·refine (if_neg hz)▸ ?_;simp only [getF];by_cases h:y=x
   ·subst h;rw [if_neg hz,ih,if_pos rfl,if_pos rfl]
   ·refine (if_neg h)▸ ?_;by_cases Yr:z=y
    ·rw [if_pos Yr,if_pos Yr]
    ·rw [if_neg Yr,if_neg Yr,ih,if_neg h]
section
variable{k:Lv}{C7 wu:eB}{σ_1 σ_2:List O}
theorem step_same{W:Wr}{o:Obj}(hs:ip a s.heap h')(ho:h'.get? a=af o)(ha:a∈W.own)(hl':a∈W.loc):Step ρ W s ρ {s with heap:=h',toks:=tk}:=
 ⟨⟨[],by simp,λ_ h=>nomatch h⟩,λb o' e=>by
  by_cases hb:b=a
  ·subst hb;exact ⟨o,ho⟩
  ·exact ⟨o',(hs.2 b hb).trans e⟩,λb o e _ h2=>(hs.2 b λq=>h2 (q▸ha)).trans e,λb _ hl o e=>⟨o,(hs.2 b λq=>hl (q▸hl')).trans e,rfl⟩,rfl,rfl,rfl⟩
theorem AK(R:Rep B.h₀ B.pr B.w ρ σ h)(hs:ip a h h')(h1:a∉ρ)(h2:B.h₀.get? a=ae):Rep B.h₀ B.pr B.w ρ σ h':=
 R.other λb o e hb=>(hs.2 b (by
  rintro rfl;rcases hb with q|q
  ·exact h1 q
  ·rw [h2] at q;injection q)).trans e
theorem EX(e:setC up.sc x v up.fz ⟨fr,σ⟩=af ((),s₁))(hp:∀ρ,Pre ρ->cB ρ v val):
  s₁=⟨putF fr x v,σ⟩/\Go B k env fl up Pre (storeName env x val) fr σ (λ_ _=>True) (putF fr x v) σ:=by
 dsimp only [setC] at e;induction hk:up.sc.names.lookup x using aw with
 |none=>rw [hk] at e;injection e
 |some kd=>
  rw [hk] at e;induction kd using tC with
  |globalExplicit=>injection e
  |globalImplicit=>injection e
  |free=>injection e
  |«local»=>
   obtain ⟨⟩:=e;refine ⟨rfl,λA ρ s Q E _ _ F p q=>?_⟩;refine aR F.mv.loc λm hn hm=>?_;have hL:env.locals∈own env:=fm ..;refine uc (hm x hk).1 hn (λh' hn' hs=>?_) (by refine F.ok.kind▸ ?_;rfl);refine gj (id hn') λon _ _ Zi _=>?_;have st:Step ρ (wr up env) s ρ {s with heap:=h',toks:=s.toks+1}:=step_same hs Zi (cf _ hL) hL;refine q ρ _ () st (F.step st (AK F.rep hs (F.rM _ hL) (F.oW _ hL)) ⟨⟨_,hn',λy hy=>⟨(hm y hy).1,?_⟩⟩,λy hy=>?_,λy hy=>?_,F.mv.OZ⟩) trivial
   ·rw [b6];by_cases h:y=x
    ·rw [if_pos h,if_pos h];exact ⟨val,rfl,hp ρ p⟩
    ·rw [if_neg h,if_neg h];exact (hm y hy).2
   ·refine d7 (F.mv.G9 y hy) λk' r'1=>?_;refine b9 r'1 λc o v' h1 h2 h3 h4=>?_;have hc:c∈env.cells.map (·.2):=mem_lookup h1;refine ⟨k',c,o,v',h1,(hs.2 c λq=>F.mF (q▸hc)).trans h2,h3,?_⟩;rw [b6,if_neg (by rintro rfl;rw [hk] at hy;contradiction)];exact h4
   ·refine d7 (F.mv.EU y hy) λk' r'2=>?_;refine b9 r'2 λc o v' h1 h2 h3 h4=>?_;have hc:c∈env.cells.map (·.2):=mem_lookup h1;exact ⟨k',c,o,v',h1,(hs.2 c λq=>F.mF (q▸hc)).trans h2,h3,h4⟩
  |cell=>
   obtain ⟨⟩:=e;refine ⟨rfl,λA ρ s Q E _ _ F p q=>?_⟩;refine d7 (F.mv.G9 x hk) λk' r'3=>?_;refine b9 r'3 λc o v' h1 h2 h3 h4=>?_;have hc:c∈env.cells.map (·.2):=mem_lookup h1;have hL:c∈own env:=i8 _ hc;refine wpAny_storeName_cell F.ok.kind k' h1 ⟨o,h2,h3⟩ λh' hn' hs=>?_;refine aR F.mv.loc λm hn hm=>?_;refine aR hn' λo' ho' hd'=>?_;have st:Step ρ (wr up env) s ρ {s with heap:=h'}:=step_same (tk:=s.toks) hs ho' (cf _ hL) hL;refine q ρ _ () st (F.step st (AK F.rep hs (F.rM _ hL) (F.oW _ hL)) ⟨⟨m,hn.sameBut hs λq=>F.mF (q▸hc),λy hy=>⟨(hm y hy).1,?_⟩⟩,λy hy=>?_,λy hy=>?_,F.mv.OZ⟩) trivial
   ·rw [b6,if_neg (by rintro rfl;rw [hk] at hy;contradiction)];exact (hm y hy).2
   ·by_cases h:y=x
    ·subst h;refine ⟨k',c,o',af val,h1,ho',hd',?_⟩;rw [b6,if_pos rfl];exact ⟨val,rfl,hp ρ p⟩
    ·refine d7 (F.mv.G9 y hy) λk'' r'4=>?_;refine b9 r'4 λc' O6 Zj g1 g2 g3 g4=>?_;refine ⟨k'',c',O6,Zj,g1,(hs.2 c' λq=>h (F.oY y x c' g1 (q▸h1))).trans g2,g3,?_⟩;rw [b6,if_neg h];exact g4
   ·have h:y≠x:=by rintro rfl;rw [hk] at hy;contradiction
    refine d7 (F.mv.EU y hy) λk'' r'5=>?_;refine b9 r'5 λc' O6 Zj g1 g2 g3 g4=>?_;exact ⟨k'',c',O6,Zj,g1,(hs.2 c' λq=>h (F.oY y x c' g1 (q▸h1))).trans g2,g3,g4⟩
end
theorem lx:h.get? h.objs.size=ae:=by
 induction q:h.get? h.objs.size using aw with
 |none=>rfl
 |some o=>exact absurd (du q) (aX _)
theorem bM.length(h:bM ρ xs ys):xs.length=ys.length:=
 h.by (P:=λxs ys=>xs.length=ys.length) rfl λ_ _ _ _ _ _ h=>congrArg (· +1) h
theorem bM.get{x:V}(h:bM ρ xs ys)(e:xs[i]? =af x):∃y,ys[i]? =af y/\cB ρ x y:=
 h.by (P:=λxs ys=>∀i,xs[i]? =af x->∃y,ys[i]? =af y/\cB ρ x y) (λi e=>by rw [List.getElem?_nil] at e;injection e) (λa xs y ys r _ ih i e=>by
  induction i using nM with
  |zero=>injection e with e;subst e;exact ⟨y,rfl,r⟩
  |succ i=>exact ih i e) i e
theorem bM.none(h:bM ρ xs ys)(e:xs[i]? =ae):ys[i]? =ae:=by
 rw [ql] at e ⊢;rw [←h.length];exact e
theorem bM.append{xs':List V}{ys':List ay}(h:bM ρ xs ys)(h':bM ρ xs' ys'):bM ρ (xs++xs') (ys++ys'):=
 h.by (P:=λxs ys=>bM ρ (xs++xs') (ys++ys')) h' λ_ _ _ _ r _ ih=>⟨r,ih⟩
theorem bM.take(n:Nat):∀{xs:List V}{ys:List ay},bM ρ xs ys->bM ρ (xs.take n) (ys.take n):=by
 induction n with
 |zero=>intro xs ys _;trivial
 |succ n ih=>
  intro xs ys h
  match xs,ys,h with
  | [],[],_=>assumption
  |_::_,_::_,⟨a,b⟩=>exact ⟨a,ih b⟩
theorem bM.drop(n:Nat):∀{xs:List V}{ys:List ay},bM ρ xs ys->bM ρ (xs.drop n) (ys.drop n):=by
 induction n with
 |zero=>intro xs ys h;exact h
 |succ n ih=>
  intro xs ys h
  match xs,ys,h with
  | [],[],_=>assumption
  |_::_,_::_,⟨a,b⟩=>simpa using ih b
theorem bM.reverse:∀{xs:List V}{ys:List ay},bM ρ xs ys->bM ρ xs.reverse ys.reverse
 | [],[],_=>trivial
 |_::_,_::_,⟨a,b⟩=>by rw [qL,qL];exact b.reverse.append ⟨a,trivial⟩
section
variable{k:Lv}{C7 wu:eB}{σ_1 σ_2:List O}
theorem Fits.obj{o:O}{s':eP}(F:Fits B ρ σ fr up env fl s)(hT:c.aj=B.aj)(e:eu c v up.fz ⟨fr,σ⟩=af (o,s'))(hv:cB ρ v val):
  s'=⟨fr,σ⟩/\∃a r,val= .ref a/\s.heap.get? a=af r/\ou B.pr B.w ρ o r:=by
 dsimp only [eu] at e;induction v using V.casesOn with
 |ref i=>
  refine aR (bY.mp (show (σ[i]?).map (λo=>(o,(⟨fr,σ⟩:eP)))=af (o,s') from e)) λo' h1 h2=>?_;obtain ⟨⟩:=h2;refine aR hv λa ha q'1=>?_;obtain rfl:=q'1;refine ck (F.rep.obj i o h1) λb r g1 g2 g3=>?_;rw [ha] at g1;(injection g1 with g1;subst g1);exact ⟨rfl,a,r,rfl,g2,g3⟩
 |top a=>
  refine aR (bY.mp (show (c.aj.lookup a).map (λo=>(o,(⟨fr,σ⟩:eP)))=af (o,s') from e)) λo' h1 h2=>?_;obtain ⟨⟩:=h2;subst hv;rw [hT] at h1;refine aR (B.top a o h1) λr g1 g2=>?_;exact ⟨rfl,a,r,rfl,F.base _ _ g1,g2.ext ⟨ρ,by simp⟩⟩
 |_=>injection e
theorem Fits.ref{o:O}(F:Fits B ρ σ fr up env fl s)(e:σ[i]? =af o)(hv:cB ρ (.ref i) val):
  ∃a r,val= .ref a/\ρ[i]? =af a/\s.heap.get? a=af r/\ou B.pr B.w ρ o r:=by
 refine aR hv λa ha q'2=>?_;obtain rfl:=q'2;refine ck (F.rep.obj i o e) λb r g1 g2 g3=>?_;rw [ha] at g1;(injection g1 with g1;subst g1);exact ⟨a,r,rfl,ha,g2,g3⟩
theorem Fits.alloc{o:O}{r:Obj}(F:Fits B ρ σ fr up env fl s)(hr:ou B.pr B.w ρ o r)(tk:Nat):
  Step ρ (wr up env) s (ρ++ [s.heap.objs.size]) {s with heap:=s.heap.push r,toks:=tk}/\Fits B (ρ++ [s.heap.objs.size]) (σ++ [o]) fr up env fl {s with heap:=s.heap.push r,toks:=tk}/\
   cB (ρ++ [s.heap.objs.size]) (.ref σ.length) (.ref s.heap.objs.size):=by
 have st:Step ρ (wr up env) s (ρ++ [s.heap.objs.size]) {s with heap:=s.heap.push r,toks:=tk}:=
  ⟨⟨_,rfl,λa ha=>by simp at ha;subst ha;exact lx⟩,λb o e=>⟨o,aP _ e⟩,λb o e _ _=>aP _ e,λ_ _ _ o e=>⟨o,aP _ e,rfl⟩,rfl,rfl,rfl⟩
 refine ⟨st,F.step st (F.rep.alloc hr) ?_,s.heap.objs.size,?_,rfl⟩
 ·exact F.mv.keep st.ext' λa _ o e=>aP _ e
 ·refine (F.rep.len).symm▸ ?_;simp
theorem Fits.hidden(F:Fits B ρ σ fr up env fl s)(r:Obj)(tk:Nat):
  Step ρ (wr up env) s ρ {s with heap:=s.heap.push r,toks:=tk}/\Fits B ρ σ fr up env fl {s with heap:=s.heap.push r,toks:=tk}:=by
 have st:Step ρ (wr up env) s ρ {s with heap:=s.heap.push r,toks:=tk}:=
  ⟨⟨[],by simp,λa ha=>nomatch ha⟩,λb o e=>⟨o,aP _ e⟩,λb o e _ _=>aP _ e,λ_ _ _ o e=>⟨o,aP _ e,rfl⟩,rfl,rfl,rfl⟩
 refine ⟨st,F.step st (F.rep.push r) ?_⟩;exact F.mv.keep st.ext' λa _ o e=>aP _ e
theorem Fits.setAt{o:O}{r:Obj}(F:Fits B ρ σ fr up env fl s)(hf':i∉up.fz)(hi:ρ[i]? =af a)(hs:ip a s.heap h')(hr:h'.get? a=af r)(hf:ou B.pr B.w ρ o r)(tk:Nat):
  Step ρ (wr up env) s ρ {s with heap:=h',toks:=tk}/\Fits B ρ (σ.set i o) fr up env fl {s with heap:=h',toks:=tk}:=by
 have Co:=bN hi;have st:Step ρ (wr up env) s ρ {s with heap:=h',toks:=tk}:=
  ⟨⟨[],by simp,λa ha=>nomatch ha⟩,λb o e=>by
   by_cases hb:b=a
   ·subst hb;exact ⟨r,hr⟩
   ·exact ⟨o,(hs.2 b hb).trans e⟩,λb o e h1 _=>(hs.2 b (by
   rintro rfl;rcases h1 with h1|⟨j,hj,h1⟩
   ·exact h1 Co
   ·have l1:i<ρ.length:=by
     rcases ew i ρ.length with q|q
     ·exact q
     ·rw [eG q] at hi;injection hi
    have:=(iq l1 F.rep.nd).mp (hi.trans h1.symm);subst this;exact hf' hj)).trans e,λb hb _ o e=>⟨o,(hs.2 b (by rintro rfl;exact (F.Dt _ hb).2.1 Co)).trans e,rfl⟩,rfl,rfl,rfl⟩
 refine ⟨st,F.step st (F.rep.setAt hi hs hr hf) ?_⟩;exact F.mv.keep st.ext' λb hb o e=>(hs.2 b (by rintro rfl;exact F.rM _ hb Co)).trans e
end
section
variable{s s':eP}
theorem bind_some{m:M α}{f:α->M β}{r:β × eP}(h:(m>>=f) z s=af r):∃a s₁,m z s=af (a,s₁)/\f a z s₁=af r:=by
 change (match m z s with|some (a,s')=>f a z s'|none=>ae)=af r at h;induction hm:m z s using aw with
 |none=>rw [hm] at h;injection h
 |some x=>rw [hm] at h;exact ⟨x.1,x.2,rfl,h⟩
theorem nn{x:α}(h:(ae:Option α)=af x):p:=nomatch h
theorem bQ{m:M α}{f:α->M β}{r:β × eP}(h:(m>>=f) z s=af r)(k:∀a s₁,m z s=af (a,s₁)->f a z s₁=af r->p):p:=
 let ⟨a,s₁,h1,h2⟩:=bind_some h
 k a s₁ h1 h2
theorem aK{a b:α}(h:(aA a:M α) z s=af (b,s')):b=a/\s'=s:=by
 change af (a,s)=af (b,s') at h;obtain ⟨⟩:=h;exact ⟨rfl,rfl⟩
theorem jB{o:Option α}{a:α}(h:lift o z s=af (a,s')):o=af a/\s'=s:=by
 unfold lift at h;refine aR (bY.mp h) λx h1 h2=>?_;obtain ⟨⟩:=h2;exact ⟨h1,rfl⟩
theorem eQ{o:O}(h:alloc o z s=af (v,s')):sizeOk o=ao/\v= .ref s.os.length/\s'=⟨s.fr,s.os++ [o]⟩:=by
 unfold alloc at h;split at h
 ·rename_i hz;obtain ⟨⟩:=h;exact ⟨hz,rfl,rfl⟩
 ·exact nn h
theorem i5{o:O}(h:gZ i o z s=af (u,s')):i<s.os.length/\sizeOk o=ao/\i∉z/\s'=⟨s.fr,s.os.set i o⟩:=by
 unfold gZ at h;split at h
 ·rename_i hz;obtain ⟨⟩:=h;exact ⟨hz.1,hz.2.1,hz.2.2,rfl⟩
 ·exact nn h
theorem CG{o:O}(h:eu c v z s=af (o,s')):s'=s:=by
 unfold eu at h;induction v using V.casesOn with
 |ref _=>
  refine aR (bY.mp h) λx h1 h2=>?_;obtain ⟨⟩:=h2;rfl
 |top _=>
  refine aR (bY.mp h) λx h1 h2=>?_;obtain ⟨⟩:=h2;rfl
 |_=>
  exact nn h
theorem uG{o:O}(h:eu c (.ref i) z s=af (o,s')):s.os[i]? =af o/\s'=s:=by
 refine aR (bY.mp (show (s.os[i]?).map (λo=>(o,s))=af (o,s') from h)) λx h1 h2=>?_;obtain ⟨⟩:=h2;exact ⟨h1,rfl⟩
theorem objE{f:O->M β}{r:β × eP}(h:(eu c v>>=f) z s=af r)(k:∀o,eu c v z s=af (o,s)->f o z s=af r->p):p:=
 bQ h λo s₁ h1 h2=>by
  obtain rfl:=CG h1;exact k o h1 h2
theorem nD{x:Option α}{f:α->M β}{r:β × eP}(h:(lift x>>=f) z s=af r)(k:∀a,x=af a->f a z s=af r->p):p:=
 bQ h λa s₁ h1 h2=>by
  obtain ⟨h3,rfl⟩:=jB h1;exact k a h3 h2
theorem L9{f:O->M β}{r:β × eP}(h:(eu c (.ref i)>>=f) z s=af r)(k:∀o,s.os[i]? =af o->f o z s=af r->p):p:=
 bQ h λo s₁ h1 h2=>by
  obtain ⟨h3,rfl⟩:=uG h1;exact k o h3 h2
end
abbrev KV(B:lH)(env:Env)(fl:List Env)(up:Up)(ρ:List bk)(s:aM)(et:eB)(σ':List O)(v:V)(Q:ay->aM->Prop):Prop:=
 ∀ρ' s' x,Step ρ (wr up env) s ρ' s'->Fits B ρ' σ' et up env fl s'->cB ρ' v x->Q x s'
abbrev KA(B:lH)(env:Env)(fl:List Env)(up:Up)(ρ:List bk)(s:aM)(et:eB)(σ':List O)(a:α)(Q:α->aM->Prop):Prop:=
 ∀ρ' s',Step ρ (wr up env) s ρ' s'->Fits B ρ' σ' et up env fl s'->Q a s'
section
variable{s:aM}
theorem KV.toks{x:ay}(q:KV B env fl up ρ s fr σ v Q)(F:Fits B ρ σ fr up env fl s)(h:cB ρ v x):Q x {s with toks:=tk}:=q ρ _ x Step.toks (F.toks _) h
theorem KV.same{x:ay}(q:KV B env fl up ρ s fr σ v Q)(F:Fits B ρ σ fr up env fl s)(h:cB ρ v x):Q x s:=q ρ s x Step.refl F h
theorem KA.toks{a:α}{Q:α->aM->Prop}(q:KA B env fl up ρ s fr σ a Q)(F:Fits B ρ σ fr up env fl s):Q a {s with toks:=tk}:=q ρ _ Step.toks (F.toks _)
theorem KA.same{a:α}{Q:α->aM->Prop}(q:KA B env fl up ρ s fr σ a Q)(F:Fits B ρ σ fr up env fl s):Q a s:=q ρ s Step.refl F
theorem KV.alloc{o:O}{r:Obj}(q:KV B env fl up ρ s fr (σ++ [o]) (.ref σ.length) Q)(F:Fits B ρ σ fr up env fl s)(h:ou B.pr B.w ρ o r):Q (.ref s.heap.objs.size) {s with heap:=s.heap.push r,toks:=tk}:=by
 refine cW (F.alloc h tk) λh1 h2 h3=>?_;exact q _ _ _ h1 h2 h3
theorem Fits.jC{s':eP}(F:Fits B ρ σ fr up env fl s)(hT:c.aj=B.aj)(e:eu c v up.fz ⟨fr,σ⟩=af (.list xs,s'))(hv:cB ρ v val):
  ∃a ys n,val= .ref a/\s.heap.get? a=af ⟨.type "list",ae,.seq ys n,#[]⟩/\bM ρ xs ys.toList/\ys.size<=1000000:=by
 refine d7 (F.obj hT e hv) λq'1 r'3=>?_;refine ck r'3 λa r h1 h2 r'4=>?_;refine ck r'4 λys n q'2 h3 h4=>?_;obtain rfl:=q'1;obtain rfl:=q'2;exact ⟨a,ys,n,h1,h2,h3,h4⟩
theorem Fits.mG{s':eP}(F:Fits B ρ σ fr up env fl s)(hT:c.aj=B.aj)(e:eu c v up.fz ⟨fr,σ⟩=af (.tuple xs,s'))(hv:cB ρ v val):
  ∃a ys n,val= .ref a/\s.heap.get? a=af ⟨.type "tuple",ae,.seq ys n,#[]⟩/\bM ρ xs ys.toList/\ys.size<=1000000:=by
 refine d7 (F.obj hT e hv) λq'5 r'7=>?_;refine ck r'7 λa r h1 h2 r'8=>?_;refine ck r'8 λys n q'6 h3 h4=>?_;obtain rfl:=q'5;obtain rfl:=q'6;exact ⟨a,ys,n,h1,h2,h3,h4⟩
theorem EY{a:Int}(h:a.natAbs<=1000000000):vW a<=64:=by
 have:a.natAbs<2^30:=Iu h rfl;unfold vW;split
 ·exact eS _
 ·rename_i hz
  have:=(Nat.log2_lt (by simpa using hz)).mpr this;exact bR this
theorem bM.toArray{ys:Array ay}{zs:List V}{ws:Array ay}(h:bM ρ xs ys.toList)(h':bM ρ zs ws.toList):bM ρ (xs++zs) (ys++ws).toList:=by
 rw [oj];exact h.append h'
theorem Du{a:V}{f:Int->M α}{s:eP}{r:α × eP}{x:ay}(e:ff a.mj f z s=af r)(hx:cB ρ a x)(k:∀i t,x= .int i t->f i z s=af r->C):C:=
 bZ e λi w e=>by
  obtain rfl:=CD w;exact lG hx λt h=>k i t h e
theorem Hb{a:V}{f:Str->M α}{s:eP}{r:α × eP}{x:ay}(e:ff a.jU f z s=af r)(hx:cB ρ a x)(k:∀i t,x= .str i t->f i z s=af r->C):C:=
 bZ e λi w e=>by
  obtain rfl:=nB w;exact lG hx λt h=>k i t h e
theorem listE{f:List V->M α}{r:α × eP}{x:ay}(e:(eu c o>>=λob=>ff ob.jX f) up.fz ⟨fr,σ⟩=af r)(F:Fits B ρ σ fr up env fl s)(hT:c.aj=B.aj)(hx:cB ρ o x)
  (k:∀xs p ys n,x= .ref p->s.heap.get? p=af ⟨.type "list",ae,.seq ys n,#[]⟩->bM ρ xs ys.toList->ys.size<=1000000->f xs up.fz ⟨fr,σ⟩=af r->C):C:=
 objE e λob h1 e=>bZ e λxs w e=>by
  obtain rfl:=wL w;exact b9 (F.jC hT h1 hx) λp ys n h1 h2 h3 h4=>k xs p ys n h1 h2 h3 h4 e
theorem rN{a b:V}{f:Int->Int->M α}{s:eP}{r:α × eP}{x y:ay}(e:ff a.mj (λi=>ff b.mj (f i)) z s=af r)(hx:cB ρ a x)(hy:cB ρ b y)(k:∀i j t u,x= .int i t->y= .int j u->f i j z s=af r->C):C:=
 Du e hx λi t h1 e=>Du e hy λj u h2 e=>k i j t u h1 h2 e
theorem Tj{op:yq}{a b:V}{x y:ay}(F:Fits B ρ σ fr up env fl s)(hT:c.aj=B.aj)(e:binC c op a b up.fz ⟨fr,σ⟩=af (v,s₁))(hx:cB ρ a x)(hy:cB ρ b y)
  (q:KV B env fl up ρ s s₁.fr s₁.os v Q):wpAny (model B.pr B.w) A (binaryOp op x y) Q E s:=by
 induction op using tD with
 |Add=>
  refine eh e (λi w e=>?_) (λ_ e=>?_)
  ·refine bZ e λj w' e=>?_;obtain rfl:=CD w;obtain rfl:=CD w';obtain ⟨t,rfl⟩:=hx;obtain ⟨u,rfl⟩:=hy;obtain ⟨rfl,rfl⟩:=aK e;exact add_int (q.toks F ⟨_,rfl⟩)
  refine eh e (λi w e=>?_) (λ_ e=>?_)
  ·refine bZ e λj w' e=>?_;obtain rfl:=nB w;obtain rfl:=nB w';obtain ⟨t,rfl⟩:=hx;obtain ⟨u,rfl⟩:=hy;refine xC e λhz e=>?_;obtain ⟨rfl,rfl⟩:=aK e;exact add_str (λt' tk=>q.toks F ⟨_,rfl⟩) (by show _<=2^24;unfold Str.length;exact qi hz rfl)
  ·refine listE e F hT hx λxs p ys n q'11 g1 g2 g3 e=>?_;subst q'11;refine listE e F hT hy λxs' p' ys' n' q'12 GF O7 Vt e=>?_;subst q'12;refine cW (eQ e) λhz q'9 q'10=>?_;obtain rfl:=q'9;obtain rfl:=q'10;have hl:=(g2.append O7).length;have hz':=iK (show decide _=ao from hz);have hs:(ys++ys').size<=1000000:=by refine lU▸ ?_;simp at hl hz';exact ai (ar hl.symm) hz'
   exact PySem.P.add_list g1 GF (q.alloc F ⟨_,_,rfl,g2.toArray O7,hs⟩) (ai (lU▸hs) (by decide))
 |Sub=>
   refine rN e hx hy λi j t u h1 h2 e=>?_;subst h1;subst h2;obtain ⟨rfl,rfl⟩:=aK e;exact sub_int (q.toks F ⟨_,rfl⟩)
 |Mult=>
   refine rN e hx hy λi j t u h1 h2 e=>?_;subst h1;subst h2;by_cases hz:i.natAbs<=1000000000/\j.natAbs<=1000000000
   ·rw [if_pos hz] at e;obtain ⟨rfl,rfl⟩:=aK e;exact mul_int (q.toks F ⟨_,rfl⟩) (.of_left (EY hz.1))
   ·rw [if_neg hz] at e;exact nn e
 |FloorDiv=>
   refine rN e hx hy λi j t u h1 h2 e=>?_;subst h1;subst h2;refine Ta e λhz e=>?_;obtain ⟨rfl,rfl⟩:=aK e;exact floordiv_int (λh=>hz (.inl h)) (q.toks F ⟨_,rfl⟩) (.inl (tE (Iu (Nat.le_of_not_lt λq=>hz (.inr (.inr q))) rfl)))
 |Mod=>
   refine rN e hx hy λi j t u h1 h2 e=>?_;subst h1;subst h2;by_cases hz:j=0
   ·rw [if_pos hz] at e;exact nn e
   ·rw [if_neg hz] at e;obtain ⟨rfl,rfl⟩:=aK e;exact mod_int' hz (q.toks F ⟨_,rfl⟩)
 |_=>exact nn e
end
section
variable{k:Lv}
theorem lmap{o:Option α}{f:α->β}{b:β}(e:o.map f=af b)(k:∀a,o=af a->f a=b->C):C:=aR (bY.mp e) k
theorem eY{o:Option α}{f:α->Option β}{b:β}(e:o.bind f=af b)(k:∀a,o=af a->f a=af b->C):C:=aR (dq.mp e) k
theorem zD{f:V->Option PyData}(hf:∀v d x,f v=af d->cB ρ v x->∃as,Reads h x d as){ds:List PyData}(e:dataL f xs=af ds)(r:bM ρ xs ys):∃as,ReadsAll h ys ds as:=
 r.by (P:=λxs ys=>∀ds,dataL f xs=af ds->∃as,ReadsAll h ys ds as) (λds e=>by (injection e with e;subst e);exact ⟨_,.nil⟩) (λx xs y ys r _ ih ds e=>by
  refine eY e λd h1 e=>?_;refine lmap e λds' h2 q=>?_;subst q;refine lG (hf x d y h1 r) λas g=>?_;exact lG (ih _ h2) λbs g'=>⟨_,.cons g g'⟩) ds e
theorem AL{d:PyData}{x:ay}(e:IA v=af d)(r:cB ρ v x):∃as,Reads h x d as:=by
 induction v using V.casesOn with
 |none=>(injection e with e;subst e);subst r;exact ⟨_,.none⟩
 |bool b=>(injection e with e;subst e);subst r;exact ⟨_,.bool b⟩
 |int i=>(injection e with e;subst e);obtain ⟨t,rfl⟩:=r;exact ⟨_,.int i t⟩
 |str i=>(injection e with e;subst e);obtain ⟨t,rfl⟩:=r;exact ⟨_,.str i t⟩
 |_=>exact nn e
theorem Fits.reads(F:Fits B ρ σ fr up env fl s):∀(n:Nat) (v:V) (d:PyData) (x:ay),eg σ n v=af d->cB ρ v x->∃as,Reads s.heap x d as:=by
 intro n;induction n with
 |zero=>
  exact λv d x e r=>AL e r
 |succ n ih=>
  intro v d x e r;induction q:v.nu using aw with
  |none=>exact AL (q▸e:(match (ae:Option Nat) with|some i=>(σ[i]?).bind (Pf (eg σ n))|ae=>IA v)=af d) r
  |some i=>
   obtain rfl:=qw q;refine eY e λo hx e=>?_;induction o using O.casesOn with
   |list xs=>
    refine lmap e λds h1 q'1=>?_;obtain rfl:=q'1;refine ey (F.ref hx r) λa o q'2 _ g1 r'4=>?_;refine ck r'4 λys m q'3 g2 _=>?_;obtain rfl:=q'2;obtain rfl:=q'3;exact lG (zD ih h1 g2) λas g=>⟨_,.list g1 rfl rfl g⟩
   |tuple xs=>
    refine lmap e λds h1 q'5=>?_;obtain rfl:=q'5;refine ey (F.ref hx r) λa o q'6 _ g1 r'8=>?_;refine ck r'8 λys m q'7 g2 _=>?_;obtain rfl:=q'6;obtain rfl:=q'7;exact lG (zD ih h1 g2) λas g=>⟨_,.tuple g1 rfl rfl g⟩
   |_=>exact nn e
theorem AM{a b:V}{r:Bool}(e:EL σ a b=af r):∃da db,eg σ 8 a=af da/\eg σ 8 b=af db/\da.canLay0=ao/\db.canLay0=ao/\da.depth<=20/\r=mP da db:=by
 refine eY e λda h1 e=>?_;refine eY e λdb h2 e=>?_;by_cases hz:da.canLay0=ao/\db.canLay0=ao/\da.depth<=20
 ·rw [if_pos hz] at e;(injection e with e;subst e);exact ⟨da,db,h1,h2,hz.1,hz.2.1,hz.2.2,rfl⟩
 ·rw [if_neg hz] at e;exact nn e
theorem kF.deep(r:kF A k){a:Nat}(h:a<=20):A.units+min a b<cLine:=by have:=r.units;exact aW (dW (aF _ _) (ai (eV _ _) (qi h rfl))) this
theorem km{x:ay}(h:isStr v=ao)(r:cB ρ v x):∃y t,v= .str y/\x= .str y t:=by
 induction v using V.casesOn<;>first|(obtain ⟨t,rfl⟩:=r;exact ⟨_,t,rfl,rfl⟩)|injection h
noncomputable def JZ(k:Str):ay->Bool
 | .str t _=>t.cps.toList==k.cps.toList
 |_=>bf
open Classical in
theorem Af{k:Str}{t:Tok}:JZ k (.str y t)=decide (bc y=bc k):=by
 show (y.cps.toList==k.cps.toList)=_;obtain ⟨⟨y⟩⟩:=y;obtain ⟨⟨k⟩⟩:=k;simp;by_cases h:y=k
 ·subst h;simp
 ·rw [decide_eq_false λq=>h (by injection q with q;injection q with q;injection q)];simpa using h
open Classical in
theorem IV{k:Str}(r:bM ρ xs ys)(h:xs.all isStr=ao):ys.any (JZ k)=OY (.str k) xs:=
 r.by (P:=λxs ys=>xs.all isStr=ao->ys.any (JZ k)=OY (.str k) xs) (λ_=>rfl) (λx xs y ys r rs ih h=>by
  rw [iD,aS] at h;refine gk (km h.1 r) λz t q'9 q'10=>?_;obtain rfl:=q'9;obtain rfl:=q'10;rw [rz,ih h.2,Af];show _=if bc z=bc k then ao else OY (.str k) xs
  by_cases hz:bc z=bc k
  ·rw [if_pos hz,decide_eq_true hz];rfl
  ·rw [if_neg hz,decide_eq_false hz];rfl) h
theorem qx{k:Str}{t:Tok}{ys:Array ay}(hr:bM ρ xs ys.toList)(h:xs.all isStr=ao):∀y,y∈ys->MeetsSeq.EqGives y (.str k t) (JZ k y):=by
 have:∀(xs:List V) (ys:List ay),bM ρ xs ys->xs.all isStr=ao->∀y∈ys,∃z u,y= .str z u:=by
  intro xs;induction xs with
  |nil=>intro ys r _ y hy;induction ys using aC with|nil=>cases hy|cons _ _=>obtain ⟨⟩:=r
  |cons x xs ih=>
   intro ys r h y hy;induction ys using aC with
   |nil=>contradiction
   |cons z zs=>
    rw [iD,aS] at h;rcases jJ hy with rfl|hy
    ·refine gk (km h.1 r.1) λz t _ q'11=>?_;obtain rfl:=q'11;exact ⟨z,t,rfl⟩
    ·exact ih zs r.2 h.2 y hy
 intro y hy;refine Aq (this xs ys.toList hr h y (vh.mpr hy)) λz u q'12=>?_;obtain rfl:=q'12;exact EG z k u t
theorem cY.find[DecidableEq K]{x:K}{es:List (K × V)}{kvs:List (K × ay)}(h:cY ρ es kvs):n8 ρ (lookE es x) (valueAt kvs x):=
 h.by (P:=λes kvs=>n8 ρ (lookE es x) (valueAt kvs x)) rfl λk v es y kvs r rs ih=>by
  dsimp only [lookE];simp only [valueAt,jx] at ih ⊢;by_cases h:k=x
  ·rw [if_pos h,decide_eq_true h];exact ⟨y,rfl,r⟩
  ·rw [if_neg h,decide_eq_false h];exact ih
theorem cY.look[DecidableEq K]{x:K}{es:List (K × V)}{kvs:List (K × ay)}(h:cY ρ es kvs)(e:lookE es x=af v):∃y,valueAt kvs x=af y/\cB ρ v y:=by
 have:=h.find (x:=x);rw [e] at this;exact this
theorem n8.uH{o:Option V}{p:Option ay}(h:n8 ρ o p):o.isSome=p.isSome:=by
 induction o using aw with
 |none=>subst h;rfl
 |some v=>refine aR h λy q'13 _=>?_;obtain rfl:=q'13;rfl
theorem isStrOf_self{t:Tok}:Cr x (.str x t)=ao:=by simp [Cr]
theorem isInt_self{x:Int}{t:Tok}:vi x (.int x t)=ao:=by simp [vi]
theorem AN{t:Tok}:(strKind B.pr B.w).is x (.str x t)=ao:=isStrOf_self (t:=t)
theorem RU{x:Int}{t:Tok}:(iO B.pr B.w).is x (.int x t)=ao:=isInt_self (t:=t)
theorem Fits.Hc(F:Fits B ρ σ fr up env fl s)(h:ρ[i]? =af a):(a==sysModules)=bf:=by
 obtain ⟨o,ho⟩:=B.VR;have:=F.rep.new a (bN h);induction q:(a==sysModules) using cG with
 |false=>rfl
 |true=>
  have:a=sysModules:=by simpa using q
  subst this
  simp_all
theorem Fits.dictAt{s':eP}(F:Fits B ρ σ fr up env fl s)(hT:c.aj=B.aj)(e:eu c v up.fz ⟨fr,σ⟩=af (.dict es,s'))(hv:cB ρ v val):
  ∃a kvs,val= .ref a/\(a==sysModules)=bf/\s.heap.DictOf (strKind B.pr B.w) a kvs/\cY ρ es kvs/\es.length<=1000000:=by
 refine d7 (F.obj hT e hv) λq'14 r'16=>?_;refine ey r'16 λa r h1 h2 q'15 g7=>?_;obtain rfl:=q'14;refine dy q'15 λds n kvs g1 g2 g3 g4 g5 g6=>?_;refine ⟨a,kvs,h1,?_,⟨r,ds,n,h2,g1,g2,g3,g4,g5⟩,g6,g7⟩;induction v using V.casesOn with
 |ref i=>refine aR hv λb hb hv=>?_;rw [h1] at hv;(injection hv with hv;subst hv);exact F.Hc hb
 |top b=>
  subst hv;obtain ⟨⟩:=h1;refine aR (bY.mp (show (c.aj.lookup a).map (λo=>(o,(⟨fr,σ⟩:eP)))=af (.dict es,_) from e)) λx q1 q2=>?_;exact B.Ha a x (hT▸q1)
 |_=>exact nn e
theorem Fits.IW{es:List (Int × V)}{s':eP}(F:Fits B ρ σ fr up env fl s)(hT:c.aj=B.aj)(e:eu c v up.fz ⟨fr,σ⟩=af (.qt es,s'))(hv:cB ρ v val):
  ∃a kvs,val= .ref a/\(a==sysModules)=bf/\s.heap.DictOf (iO B.pr B.w) a kvs/\cY ρ es kvs:=by
 refine d7 (F.obj hT e hv) λq'17 r'18=>?_;refine ck r'18 λa r h1 h2 r'19=>?_;refine dy r'19 λds n kvs g1 g2 g3 g4 g5 g6=>?_;obtain rfl:=q'17;refine ⟨a,kvs,h1,?_,⟨r,ds,n,h2,g1,g2,g3,g4,g5⟩,g6⟩;induction v using V.casesOn with
 |ref i=>refine aR hv λb hb hv=>?_;rw [h1] at hv;(injection hv with hv;subst hv);exact F.Hc hb
 |top b=>
  subst hv;obtain ⟨⟩:=h1;refine aR (bY.mp (show (c.aj.lookup a).map (λo=>(o,(⟨fr,σ⟩:eP)))=af (.qt es,_) from e)) λx q1 q2=>?_;exact B.Ha a x (hT▸q1)
 |_=>exact nn e
theorem Fits.Hd{xs:List Str}{s':eP}(F:Fits B ρ σ fr up env fl s)(hT:c.aj=B.aj)(e:eu c v up.fz ⟨fr,σ⟩=af (.set xs,s'))(hv:cB ρ v val):
  ∃a,val= .ref a/\s.heap.SetOf (strKind B.pr B.w) a (λk=>decide (k∈xs)) xs.length:=by
 refine d7 (F.obj hT e hv) λq'20 r'21=>?_;refine ck r'21 λa r h1 h2 r'22=>?_;refine dy r'22 λes n t g1 g2 g3 g4 g5 r'23=>?_;refine d7 r'23 λg6 g7=>?_;obtain rfl:=q'20;exact ⟨a,h1,r,es,n,t,h2,g1,g2,g3,g4,g5,g6,g7⟩
theorem Fits.Tn{xs:List Int}{s':eP}(F:Fits B ρ σ fr up env fl s)(hT:c.aj=B.aj)(e:eu c v up.fz ⟨fr,σ⟩=af (.B5 xs,s'))(hv:cB ρ v val):
  ∃a,val= .ref a/\s.heap.SetOf (iO B.pr B.w) a (λk=>decide (k∈xs)) xs.length:=by
 refine d7 (F.obj hT e hv) λq'24 r'25=>?_;refine ck r'25 λa r h1 h2 r'26=>?_;refine dy r'26 λes n t g1 g2 g3 g4 g5 r'27=>?_;refine d7 r'27 λg6 g7=>?_;obtain rfl:=q'24;exact ⟨a,h1,r,es,n,t,h2,g1,g2,g3,g4,g5,g6,g7⟩
theorem VT{a b:V}{r:Bool}{x y:ay}(F:Fits B ρ σ fr up env fl s)(hT:c.aj=B.aj)(e:Pg c a b up.fz ⟨fr,σ⟩=af (r,s₁))(hx:cB ρ a x)(hy:cB ρ b y)
  (q:KV B env fl up ρ s s₁.fr s₁.os (.bool r) Q):wpAny (model B.pr B.w) A (compareOp .In x y) Q E s:=by
 refine eh e (λss w e=>?_) (λ_ e=>?_)
 ·refine bZ e λkk w2 e=>?_;obtain rfl:=nB w;obtain rfl:=nB w2;obtain ⟨t,rfl⟩:=hx;obtain ⟨u,rfl⟩:=hy;obtain ⟨rfl,rfl⟩:=aK e;exact in_str (q.same F rfl)
 refine objE e λo h1 e1=>?_;refine eh e1 (λxs w e5=>?_) (λ_ e2=>?_)
 ·obtain rfl:=wL w;by_cases hz:(isStr a&&xs.all isStr)=ao
  ·rw [if_pos hz] at e5;rw [aS] at hz;obtain ⟨rfl,rfl⟩:=aK e5;refine b9 (F.jC hT h1 hy) λp ys n q'28 g1 g2 g3=>?_;obtain rfl:=q'28;refine gk (km hz.1 hx) λz t q'29 q'30=>?_;obtain rfl:=q'29;obtain rfl:=q'30;refine SeqRoads2.in_list (JZ z) (qx g2 hz.2) g1 ?_;have:ys.any (JZ z)=OY (.str z) xs:=by refine (zg).symm.trans ?_;exact IV g2 hz.2
   refine this▸ ?_;exact q.same F rfl
  ·rw [if_neg hz] at e5;exact nn e5
 refine eh e2 (λxs w e5=>?_) (λ_ e3=>?_)
 ·obtain rfl:=RP w;refine bZ e5 λu w e6=>?_;obtain rfl:=nB w;obtain ⟨rfl,rfl⟩:=aK e6;refine aR (F.Hd hT h1 hy) λp q'31 g=>?_;obtain rfl:=q'31;obtain ⟨t,rfl⟩:=hx;exact wpAny_inSet_of AN rfl g (q.toks F rfl)
 refine eh e3 (λxs w e5=>?_) (λ_ e4=>?_)
 ·obtain rfl:=Tc w;refine bZ e5 λu w e6=>?_;obtain rfl:=CD w;obtain ⟨rfl,rfl⟩:=aK e6;refine aR (F.Tn hT h1 hy) λp q'32 g=>?_;obtain rfl:=q'32;obtain ⟨t,rfl⟩:=hx;exact wpAny_inSet_of RU rfl g (q.toks F rfl)
 ·refine bZ e4 λes w e5=>?_;obtain rfl:=qV w;refine bZ e5 λu w e6=>?_;obtain rfl:=nB w;obtain ⟨rfl,rfl⟩:=aK e6;refine dD (F.dictAt hT h1 hy) λp kvs q'33 g0 g g2 _=>?_;obtain rfl:=q'33;obtain ⟨t,rfl⟩:=hx;refine wpAny_in_of AN g0 g.mapOf ?_;refine (g2.find.uH).symm▸ ?_;exact q.toks F rfl
theorem EZ{a b:V}{r:Bool}{x y:ay}(e:isV a b=af r)(hx:cB ρ a x)(hy:cB ρ b y):(∃c d,x= .bool c/\y= .bool d/\r=(c==d))∨(y= .none/\r=(x== .none)):=by
 dsimp only [isV] at e;split at e
 ·subst hx;subst hy;(injection e with e;subst e);exact .inr ⟨rfl,rfl⟩
 ·subst hx;subst hy;(injection e with e;subst e);exact .inl ⟨_,_,rfl,rfl,rfl⟩
 ·rename_i h1
  subst hy;refine .inr ⟨rfl,?_⟩;(injection e with e;subst e);induction a using V.casesOn with
  |none=>exact absurd rfl h1
  |bool b=>subst hx;rfl
  |int i=>obtain ⟨t,rfl⟩:=hx;rfl
  |str i=>obtain ⟨t,rfl⟩:=hx;rfl
  |ref i=>refine aR hx λt _ q'34=>?_;obtain rfl:=q'34;rfl
  |top a=>subst hx;rfl
  |type a=>subst hx;rfl
  |bi a=>subst hx;rfl
 ·exact nn e
end
def Pt(pr:qJ)(w:jw)(A:iW)(s:aM)(y x:ay):Prop:=∀(E:ay->aM->Prop) (Q:Bool->aM->Prop),Q ao s->wpAny (model pr w) A (eqBool y x) Q E s
theorem Pt.RV{y x:ay}(h:SeqAt.EqAt A s y x ao):Pt pr w A s y x:=λE Q q=>h pr w E Q q
theorem Pt.of_refs{l b:bk}(hne:l≠b)(h:∀(E:ay->aM->Prop) (Q:ay->aM->Prop),Q (.bool ao) s->wpAny (model pr w) A (richCompare .Eq (.ref l) (.ref b)) Q E s):Pt pr w A s (.ref l) (.ref b):=λE Q hq=>by
 unfold eqBool;refine dZ ?_;refine wpAny_ite_split (λhab=>absurd (by have:=eq_of_beq hab;injection this) hne) (λ_=>?_);exact aB (h E _ (wpAny_truthy_bool hq))
theorem J0{l b:bk}{items items2:Array ay}(hl:s.heap.IsTuple l items)(hb:s.heap.IsTuple b items2)(hu:A.units<cLine)(hsz:items.size=items2.size)
  (he:∀j (h1:j<items.size) (h2:j<items2.size),Pt pr w A.in1 s items[j] items2[j]) {E:ay->aM->Prop}{Q:ay->aM->Prop}(h:Q (.bool ao) s):wpAny (model pr w) A (richCompare .Eq (.ref l) (.ref b)) Q E s:=by
 refine cO (id hl) λq'1 ho hc r'2=>?_;refine lG r'2 λn hd=>?_;obtain ⟨cls,dd,data,sl⟩:=q'1;refine cO (id hb) λq'3 ho2 hc2 r'4=>?_;refine lG r'4 λn2 hd2=>?_;obtain ⟨aak,dd2,data2,sl2⟩:=q'3;simp only at hc hd hc2 hd2;subst hc hd hc2 hd2;refine wpAny_richCompare_same_room (op:=.Eq) ⟨_,ho,rfl⟩ ⟨_,ho2,rfl⟩ PySem.F.slot_tuple_eq (wpAny_call_entry PySem.F.slot_tuple_eq ⟨_,ho,rfl⟩ PySem.F.entry_tuple_eq ?_ (PySem.F.args_tuple_eq_2 _ _)) hu;obtain ⟨hp,g,d,tk,os⟩:=s;have f2:=AutoSeq1.sub_tuple_tuple;have hZ:(items.toList.zip items2.toList).length=items.size:=by simp;exact jy (ar hsz)
 wp_walk using wpAny_loadPart' ho,wpAny_loadPart' ho2,wpAny_forIn_list _ (λrest b s'=>b.1=ae/\s'=⟨hp,g,d,tk,os⟩/\∃i,rest=(items.toList.zip items2.toList).drop i) _
 case turn=>
  rintro ⟨y,x⟩ rest b s' ⟨hb',rfl,i,hz⟩;have hlt:i<(items.toList.zip items2.toList).length:=by
   rcases ew i (items.toList.zip items2.toList).length with h'|h'
   ·exact h'
   ·rw [fI h'] at hz;injection hz
  have h1:i<items.size:=hZ▸hlt;have h2:i<items2.size:=hsz▸h1;rw [fQ hlt] at hz;injection hz with hyx hrest
  have hy:y=items[i]:=by have:=congrArg GA hyx;simpa using this
  have hx:x=items2[i]:=by have:=congrArg Prod.snd hyx;simpa using this
  subst hy hx;refine aB (he i h1 h2 _ _ ?_)
  wp_walk
  exact ⟨rfl,rfl,i+1,hrest⟩
 case fin=>
  rintro ⟨b1,b2⟩ s' ⟨hb',rfl,i,hz⟩;simp only at hb';subst hb'
  wp_walk
  have e:ml kU items.size items2.size= .bool ao:=by simp [ml,hsz]
  refine e▸ ?_;exact ⟨_,rfl,(λx=>by injection x),h⟩
 case h=>
  exact ⟨rfl,rfl,0,rfl⟩
section
variable{k:Lv}
theorem J1{a b:V}{x y:ay}(F:Fits B ρ σ fr up env fl s)(hu:A.units+100<cLine)(e:EL σ a b=af ao)(hx:cB ρ a x)(hy:cB ρ b y):Pt B.pr B.w A s x y:=by
 refine iB (AM e) λda db g1 g2 g3 g4 g5 g6=>?_;refine lG (F.reads 8 _ _ _ g1 hx) λas ra=>?_;refine lG (F.reads 8 _ _ _ g2 hy) λbs rb=>?_;have h:=SeqAt.eqAt_reads da db A s x y as bs ra rb g3 g4 (aW (bE (ai (eV _ _) (qi g5 rfl)) _) hu);rw [←g6] at h;exact .RV h
theorem Pu{es':List (Str × V)}{kvs':List (Str × ay)}(g':cY ρ es' kvs')(g:cY ρ es kvs):
  (es.all λp=>p.2.jU.isSome&&decide ((lookE es' p.1).bind V.jU=p.2.jU))=ao->KeqHits A s kvs' kvs ao:=
 g.by (P:=λes kvs=>(es.all λp=>p.2.jU.isSome&&decide ((lookE es' p.1).bind V.jU=p.2.jU))=ao->KeqHits A s kvs' kvs ao) (λ_=>.nil) λk v es y kvs r rs ih h=>by
  rw [iD,aS,aS] at h;obtain ⟨⟨h1,h2⟩,h3⟩:=h;induction q:v.jU using aw with
  |none=>rw [q] at h1;injection h1
  |some z=>
   obtain rfl:=nB q;refine eY (iK h2) λu hu hv=>?_;obtain rfl:=nB hv;refine aR (g'.look hu) λy' hy' r'=>?_;obtain ⟨t,rfl⟩:=r;obtain ⟨t',rfl⟩:=r';have he:SeqAt.EqAt A s (.str z t) (.str z t') ao:=by
    have:=keq_flat (A:=A) (s:=s) (v:=.str z t) (y:=.str z t') (d:=.str z) (e:=.str z) (λh=>.str z t) (λh=>.str z t')
    rwa [show mP (.str z) (.str z)=ao by simp [mP]] at this
   exact (KeqHits.hit hy' he (ih h3):KeqHits A s kvs' ((k,.str z t)::kvs) (ao&&ao))
theorem cY.len{es:List (K × V)}{kvs:List (K × ay)}(g:cY ρ es kvs):es.length=kvs.length:=
 g.by (P:=λes kvs=>es.length=kvs.length) rfl λ_ _ _ _ _ _ _ ih=>congrArg (· +1) ih
theorem Ma{a b:V}{x y:ay}(F:Fits B ρ σ fr up env fl s)(hu:A.units+100<cLine)(e:Di σ a b=af u)(hx:cB ρ a x)(hy:cB ρ b y):Pt B.pr B.w A s x y:=by
 refine eY e λi hi e1=>?_;refine eY e1 λj hj e2=>?_;refine eY e2 λoa ha e3=>?_;refine eY e3 λob hb e4=>?_;refine eY e4 λes h1 e5=>?_;refine eY e5 λes' h2 e6=>?_;obtain rfl:=qw hi;obtain rfl:=qw hj;obtain rfl:=qV h1;obtain rfl:=qV h2;refine Lu e6 λhz _=>?_
 let c:Cx:=⟨B.K,B.aj,λ_ _ _ _=>ae,0,bf,[]⟩
 have hoa:eu c (.ref i) up.fz ⟨fr,σ⟩=af (.dict es,⟨fr,σ⟩):=by show (σ[i]?).map _=_;rw [ha];rfl
 have hob:eu c (.ref j) up.fz ⟨fr,σ⟩=af (.dict es',⟨fr,σ⟩):=by show (σ[j]?).map _=_;rw [hb];rfl
 refine dD (F.dictAt (c:=c) rfl hoa hx) λp kvs q1 g0 g g2 _=>?_;refine dD (F.dictAt (c:=c) rfl hob hy) λp' kvs' OD g0' g' O7 _=>?_;subst q1;subst OD;by_cases hne:p=p'
 ·subst hne;exact .RV (SeqAt.EqAt.same _)
 ·refine .of_refs hne λE Q hq=>?_;have hl:kvs.length=kvs'.length:=by rw [←g2.len,←O7.len];exact hz.1
  refine keq_eq (r:=true) g0 g0' g g' (jh hu) (λ_=>Pu O7 g2 hz.2) ?_;rw [hl];simpa using hq
theorem J2{a b:V}{x y:ay}(F:Fits B ρ σ fr up env fl s)(hu:A.units+100<cLine)(e:qu σ a b=ao)(hx:cB ρ a x)(hy:cB ρ b y):Pt B.pr B.w A s x y:=by
 rcases (eA _ _).mp e with e|e
 ·exact J1 F hu (iK e) hx hy
 ·refine lG (iE.mp e) λu e=>?_;exact Ma F hu e hx hy
theorem E0(F:Fits B ρ σ fr up env fl s)(hu:A.units+100<cLine):∀{ys:List V}{vs ws:List ay},vE σ xs ys=ao->bM ρ xs vs->bM ρ ys ws->
  vs.length=ws.length/\∀j (h1:j<vs.length) (h2:j<ws.length),Pt B.pr B.w A s vs[j] ws[j]:=by
 induction xs with
 |nil=>
  intro ys vs ws e hv hw;induction ys using aC with
  |nil=>
   obtain rfl:=gC.mp (hv.length.symm.trans rfl);obtain rfl:=gC.mp (hw.length.symm.trans rfl);exact ⟨rfl,λj h1=>absurd h1 (gI _)⟩
  |cons _ _=>injection e
 |cons x xs ih=>
  intro ys vs ws e hv hw;induction ys using aC with
  |nil=>injection e
  |cons y ys=>
   induction vs using aC with
   |nil=>exact hv.elim
   |cons v vs=>
    induction ws using aC with
    |nil=>exact hw.elim
    |cons w ws=>
     have e':=(aS _ _).mp e;obtain ⟨l,h⟩:=ih e'.2 hv.2 hw.2;refine ⟨congrArg (· +1) l,λj h1 h2=>?_⟩;induction j using nM with
     |zero=>exact J2 F hu e'.1 hv.1 hw.1
     |succ j=>exact h j (tG h1) (tG h2)
theorem He{a b:V}{r:Bool}{x y:ay}(R:kF A k)(F:Fits B ρ σ fr up env fl s)(e:z7 σ a b=af r)(hx:cB ρ a x)(hy:cB ρ b y)
  (q:Q (.bool r) s):wpAny (model B.pr B.w) A (compareOp .Eq x y) Q E s:=by
 refine eY e λi hi e1=>?_;refine eY e1 λj hj e2=>?_;refine eY e2 λoa ha e3=>?_;refine eY e3 λob hb e4=>?_;refine eY e4 λxs h1 e5=>?_;refine eY e5 λys h2 e6=>?_;refine Lu e6 λhz e7=>?_;injection e7 with e7;subst e7
 obtain rfl:=qw hi;obtain rfl:=qw hj;obtain rfl:=Ad h1;obtain rfl:=Ad h2;refine ey (F.ref ha hx) λp o q1 _ g1 r1=>?_;refine ck r1 λvs m q2 g2 _=>?_;subst q1;subst q2;refine ey (F.ref hb hy) λp' o' OD _ GF r1'=>?_;refine ck r1' λws m' q2' O7 _=>?_;subst OD;subst q2';have hu:=R.units;have hu1:A.in1.units+100<cLine:=by show A.units+1+100<cLine;exact aW (ai (bE (ak rfl:101<=200) A.units) (cg (aF _ _) 200)) hu
 obtain ⟨l,h⟩:=E0 (A:=A.in1) F hu1 hz g2 O7;exact J0 ⟨_,g1,rfl,_,rfl⟩ ⟨_,GF,rfl,_,rfl⟩ (aW (aF _ _) (jh hu)) (by simpa using l) (λj h1 h2=>h j (by simpa using h1) (by simpa using h2)) q
end
section
variable{k:Lv}
theorem Mb{op:CmpOp}{a b:V}{x y:ay}(r:kF A k)(F:Fits B ρ σ fr up env fl s)(hT:c.aj=B.aj)(e:cmpC c op a b up.fz ⟨fr,σ⟩=af (v,s₁))(hx:cB ρ a x)(hy:cB ρ b y)
  (q:KV B env fl up ρ s s₁.fr s₁.os v Q):wpAny (model B.pr B.w) A (compareOp op x y) Q E s:=by
 induction op using PySem.CmpOp.casesOn with
 |Is=>
  obtain ⟨h1,rfl⟩:=jB (z:=up.fz) e;refine lmap h1 λb' h2 q'35=>?_;obtain rfl:=q'35;rcases EZ h2 hx hy with ⟨c,d,rfl,rfl,rfl⟩|⟨rfl,rfl⟩
  ·exact is_bool (q.same F rfl)
  ·exact is_none_gen (q.same F rfl)
 |IsNot=>
  obtain ⟨h1,rfl⟩:=jB (z:=up.fz) e;refine lmap h1 λb' h2 q'36=>?_;obtain rfl:=q'36;rcases EZ h2 hx hy with ⟨c,d,rfl,rfl,rfl⟩|⟨rfl,rfl⟩
  ·exact isnot_bool (q.same F rfl)
  ·exact isnot_none_gen (q.same F rfl)
 |Eq=>
  refine lmap e λb' h1 h2=>?_;obtain ⟨⟩:=h2;rcases Option.or_eq_some_iff.mp h1 with h1|⟨_,h1⟩
  rotate_left
  ·exact He r F h1 hx hy (q.same F rfl)
  refine iB (AM h1) λda db g1 g2 g3 g4 g5 q'37=>?_;obtain rfl:=q'37;exact lG (F.reads 8 _ _ _ g1 hx) λas ra=>lG (F.reads 8 _ _ _ g2 hy) λbs rb=>SeqAt.compareEq_reads ra rb g3 g4 (r.deep g5) (q.same F rfl)
 |NotEq=>
  refine lmap e λb' h1 h2=>?_;obtain ⟨⟩:=h2;refine iB (AM h1) λda db g1 g2 g3 g4 g5 q'38=>?_;obtain rfl:=q'38;exact lG (F.reads 8 _ _ _ g1 hx) λas ra=>lG (F.reads 8 _ _ _ g2 hy) λbs rb=>SeqAt.compareNe_reads ra rb g3 g4 (r.deep g5) (q.same F rfl)
 |Lt=>
  refine rN e hx hy λi j t u h1 h2 e=>?_;subst h1;subst h2;obtain ⟨rfl,rfl⟩:=aK e;exact lt_int (q.same F rfl)
 |In=>
  refine bQ e λb' s_2 h1 e=>?_;obtain ⟨rfl,rfl⟩:=aK e;exact VT F hT h1 hx hy q
 |NotIn=>
  refine objE e λo h1 e=>?_;refine bZ e λxs w e=>?_;obtain rfl:=wL w;refine xC e λhz e=>?_;rw [aS] at hz;obtain ⟨rfl,rfl⟩:=aK e;refine b9 (F.jC hT h1 hy) λp ys n q'28 g1 g2 g3=>?_;obtain rfl:=q'28;refine gk (km hz.1 hx) λz t q'29 q'30=>?_;obtain rfl:=q'29;obtain rfl:=q'30;refine SeqRoads2.notIn_list (JZ z) (qx g2 hz.2) g1 ?_;have:ys.any (JZ z)=OY (.str z) xs:=by refine (zg).symm.trans ?_;exact IV g2 hz.2
  refine this▸ ?_;exact q.same F rfl
 |_=>exact nn e
theorem AO{b:Bool}{x:ay}{Q:Bool->aM->Prop}(F:Fits B ρ σ fr up env fl s)(hT:c.aj=B.aj)(e:cP c v up.fz ⟨fr,σ⟩=af (b,s₁))(hx:cB ρ v x)
  (q:KA B env fl up ρ s s₁.fr s₁.os b Q):wpAny (model B.pr B.w) A (truthy x) Q E s:=by
 refine eh e (λu w e1=>?_) (λ_ e1=>?_)
 ·obtain ⟨rfl,rfl⟩:=aK e1;refine vR (Te w) (λh=>?_) λh=>?_
  ·obtain ⟨rfl,rfl⟩:=h;subst hx;exact truthy_none (q.same F)
  ·subst h;subst hx;exact wpAny_truthy_bool (q.same F)
 ·refine objE e1 λo h1 e2=>?_;refine bZ e2 λxs w e3=>?_;obtain rfl:=wL w;obtain ⟨rfl,rfl⟩:=aK e3;refine b9 (F.jC hT h1 hx) λp ys n q'42 g1 g2 g3=>?_;obtain rfl:=q'42;refine wpAny_truthy_list ⟨_,g1,rfl,n,rfl⟩ (SK g3 (by decide)) ?_;have:ys.isEmpty=xs.isEmpty:=by
   have:=g2.length;induction xs using aC with
   |nil=>simpa [Cs] using this.symm
   |cons x xs=>induction q:ys.isEmpty using cG with
    |false=>rfl
    |true=>simp [yt] at q;subst q;trivial
  refine this▸ ?_;exact q.toks F
end
section
variable{k:Lv}
theorem zE{k:Int}(h:qT k n=af j):k.natAbs<=1000000000/\oU k n=af j:=by
 unfold qT at h;split at h
 ·rename_i hz;exact ⟨hz,h⟩
 ·exact nn h
theorem B8{k:Int}(h:oU k n=af j):(0<=k/\j=k.toNat)∨(k<0/\ -(n:Int)<=k/\j=(k+n).toNat):=by
 unfold oU at h;by_cases hk:k<0
 ·simp only [hk,if_true] at h;split at h
  ·rename_i hz
   simp at hz;(injection h with h;subst h);exact .inr ⟨hk,Int.le_of_sub_nonneg (Int.sub_neg k n▸hz.1),rfl⟩
  ·exact nn h
 ·simp only [hk,if_false] at h;split at h
  ·(injection h with h;subst h);exact .inl ⟨mO.mp hk,rfl⟩
  ·exact nn h
theorem Pw{i:V}{x y:ay}(F:Fits B ρ σ fr up env fl s)(hT:c.aj=B.aj)(e:d8 c o i up.fz ⟨fr,σ⟩=af (v,s₁))(hx:cB ρ o x)(hy:cB ρ i y)
  (q:KV B env fl up ρ s s₁.fr s₁.os v Q):zT (model B.pr B.w) A x y Q E s:=by
 unfold d8 at e;refine eh e (λss w e=>?_) (λ_ e=>?_)
 ·refine bZ e λkk w2 e3=>?_;obtain rfl:=nB w;obtain rfl:=CD w2;obtain ⟨t,rfl⟩:=hx;obtain ⟨u,rfl⟩:=hy;obtain ⟨h2,rfl⟩:=jB e3;refine eY h2 λj hj hv=>?_;refine lmap hv λz h1 q'1=>?_;obtain rfl:=q'1;obtain ⟨hz,hj⟩:=zE hj;refine ⟨"str",_,slot_str_getitem.lookup,typeIs_str ..,?_⟩;refine getItem_str (c:=z) (by simp;exact ⟨nbq hz (by decide),YN hz (by decide)⟩) ?_ (q.toks F ⟨_,rfl⟩);rw [show oU _ (Str.length _)=_ from hj];exact h1
 refine objE e λob h1 e1=>?_;refine eh e1 (λxs w e2=>?_) (λ_ e2=>?_)
 ·refine bZ e2 λkk w2 e3=>?_;obtain rfl:=CD w2;obtain ⟨h2,rfl⟩:=jB e3;refine aR (dq.mp h2) λj hj hv=>?_;obtain ⟨hz,hj⟩:=zE hj;obtain ⟨u,rfl⟩:=hy;refine vR (Ae w) (λw3=>?_) λw3=>?_
  ·subst w3;refine b9 (F.jC hT h1 hx) λp ys n q'2 g1 g2 g3=>?_;obtain rfl:=q'2;refine aR (g2.get hv) λw hw So=>?_;have hlen:=g2.length.trans cj;refine ⟨"list",_,slot_list_getitem.lookup,⟨_,g1,rfl⟩,?_⟩;rw [cV] at hw;rcases B8 hj with ⟨h0,rfl⟩|⟨h0,h3,rfl⟩
   ·exact wpAny_getItem_list ⟨_,g1,rfl,n,rfl⟩ h0 (YN hz (by decide)) hw (q.same F So)
   ·refine wpAny_getItem_list_neg ⟨_,g1,rfl,n,rfl⟩ h0 (hlen▸h3) (je (Int.neg_le_neg (tH (SK (ai (ar hlen) g3) (by decide)))) h3) (by refine (hlen).symm▸ ?_;exact hw) (q.same F So)
  ·subst w3;refine b9 (F.mG hT h1 hx) λp ys n q'3 g1 g2 g3=>?_;obtain rfl:=q'3;refine aR (g2.get hv) λw hw So=>?_;have hlen:=g2.length.trans cj;rw [cV] at hw;refine ⟨"tuple",_,slot_tuple_getitem.lookup,⟨_,g1,rfl⟩,?_⟩;exact P.getItem_tuple g1 (nbq hz (by decide)) (YN hz (by decide)) (by refine (hlen).symm▸ ?_;exact hj) hw (q.same F So)
 ·refine bZ e2 λes w e3=>?_;obtain rfl:=qV w;refine bZ e3 λkk w2 e4=>?_;obtain rfl:=nB w2;obtain ⟨h2,rfl⟩:=jB e4;refine dD (F.dictAt hT h1 hx) λp kvs q'4 g0 g g2 _=>?_;obtain rfl:=q'4;obtain ⟨u,rfl⟩:=hy;refine aR (g2.look h2) λw hw So=>?_;refine ⟨"dict",_,slot_dict_getitem.lookup,g.typeIs,?_⟩;exact wpAny_getItem_of AN g.mapOf hw (q.toks F So)
theorem mH{x:ay}{o:Option Int}(h:CB v=af o)(r:cB ρ v x):IsPart x o:=by
 obtain ⟨⟩:=v<;>first|(cases h;cases r;exact .none)|(cases h;obtain ⟨t,rfl⟩:=r;exact .int _ t)|exact nn h
theorem Mc{l u st:V}{x xl xu xs':ay}(F:Fits B ρ σ fr up env fl s)(hT:c.aj=B.aj)(e:lu c o l u st up.fz ⟨fr,σ⟩=af (v,s₁))(hx:cB ρ o x)
  (hl:cB ρ l xl) (hu:cB ρ u xu) (hst:cB ρ st xs') (q:KV B env fl up ρ s s₁.fr s₁.os v Q):
  zT (model B.pr B.w) A x (.ref s.heap.objs.size) Q E {s with heap:=s.heap.push {cls:=.type "slice",data:=.fields #[xl,xu,xs']}}:=by
 unfold lu at e;refine gk (bind_some e) λob s_2 h1 e=>?_;obtain rfl:=CG h1;refine bZ e λxs w e=>?_;obtain rfl:=wL w;refine gk (bind_some e) λzs s_2 h2 e=>?_;obtain ⟨h2',rfl⟩:=jB h2;refine cW (eQ e) λhz0 q'5 q'6=>?_;obtain rfl:=q'5;obtain rfl:=q'6;refine b9 (F.jC hT h1 hx) λp ys n q'7 g1 g2 g3=>?_;obtain rfl:=q'7;obtain ⟨st1,F1⟩:=F.hidden {cls:=.type "slice",data:=.fields #[xl,xu,xs']} s.toks;have GF:=aP {cls:=.type "slice",data:=.fields #[xl,xu,xs']} g1;have hlen:=g2.length.trans cj;have hsl:=Ir s.heap xl xu xs';have q':KV B env fl up ρ {s with heap:=s.heap.push {cls:=.type "slice",data:=.fields #[xl,xu,xs']}} fr (σ++ [.list zs]) (.ref σ.length) Q:=λρ' s' x h1 h2 h3=>q ρ' s' x (st1.trans h1) h2 h3;refine ⟨"list",_,slot_list_getitem.lookup,⟨_,GF,rfl⟩,?_⟩;have fits:ys.size<=sizeLine:=by show _<=2^24;exact qi g3 rfl
 refine eY h2' λlo k1 h2=>?_;refine eY h2 λhi k2 h2=>?_;refine eY h2 λsp k3 h2=>?_;by_cases hz:sp=ae
 ·rw [if_pos hz] at h2;subst hz;injection h2 with h2;subst h2
  refine rA ⟨_,GF,rfl,n,rfl⟩ hsl (mH k1 hl) (mH k2 hu) (mH k3 hst) (by intro h;exact nn h) ?_ fits;refine q'.alloc F1 ⟨_,_,rfl,?_,?_⟩
  ·rw [slicePick_plain,hlen];exact (g2.drop _).take _
  ·exact ai (slicePick_size_le ..) g3
 ·rw [if_neg hz] at h2;refine Lu h2 λhk h2=>?_;refine cW hk λq'1 q'2 q'3=>?_;obtain rfl:=q'1;obtain rfl:=q'2;obtain rfl:=q'3;injection h2 with h2;subst h2
  refine rA ⟨_,GF,rfl,n,rfl⟩ hsl (mH k1 hl) (mH k2 hu) (mH k3 hst) (by intro h;contradiction) ?_ fits;refine q'.alloc F1 ⟨_,_,rfl,?_,?_⟩
  ·rw [krv_pick];exact g2.reverse
  ·exact ai (slicePick_size_le ..) g3
end
section
variable{k:Lv}
theorem cY.length{es:List (K × V)}{kvs:List (K × ay)}(h:cY ρ es kvs):es.length=kvs.length:=
 h.by (P:=λes kvs=>es.length=kvs.length) rfl λ_ _ _ _ _ _ _ h=>congrArg (· +1) h
theorem cY.any(h:cY ρ es kvs):es.any (λe=>e.1=x)=kvs.any (λe=>e.1=x):=
 h.by (P:=λes kvs=>es.any (λe=>e.1=x)=kvs.any (λe=>e.1=x)) rfl λa _ _ _ _ _ _ ih=>congrArg (decide (a=x)|| ·) ih
theorem cY.map{y:ay}(hv:cB ρ v y)(h:cY ρ es kvs):cY ρ (es.map λe=>if e.1=x then (e.1,v) else e) (kvs.map λe=>if e.1=x then (e.1,y) else e):=
 h.by (P:=λes kvs=>cY ρ (es.map λe=>if e.1=x then (e.1,v) else e) (kvs.map λe=>if e.1=x then (e.1,y) else e)) trivial λa v0 es w0 kvs r0 r ih=>by
  show cY ρ ((if a=x then (a,v) else (a,v0))::_) ((if a=x then (a,y) else (a,w0))::_);by_cases h:a=x
  ·rw [if_pos h,if_pos h];exact ⟨⟨rfl,hv⟩,ih⟩
  ·rw [if_neg h,if_neg h];exact ⟨⟨rfl,r0⟩,ih⟩
theorem cY.snoc{y:ay}(hv:cB ρ v y)(h:cY ρ es kvs):cY ρ (es++ [(x,v)]) (kvs++ [(x,y)]):=
 h.by (P:=λes kvs=>cY ρ (es++ [(x,v)]) (kvs++ [(x,y)])) (show cY ρ [(x,v)] [(x,y)] from ⟨⟨rfl,hv⟩,trivial⟩) λa v0 es w0 kvs r _ ih=>(show cY ρ ((a,v0)::(es++ [(x,v)])) ((a,w0)::(kvs++ [(x,y)])) from ⟨⟨rfl,r⟩,ih⟩)
theorem cY.stored{y:ay}(h:cY ρ es kvs)(hv:cB ρ v y):cY ρ (jY es x v) (stored kvs x y):=by
 unfold jY PySem.stored;rw [h.any];split
 ·exact h.map hv
 ·exact h.snoc hv
theorem cY.without(h:cY ρ es kvs):cY ρ (B6 es x) (without kvs x):=
 h.by (P:=λes kvs=>cY ρ (B6 es x) (PySem.without kvs x)) trivial λa _ es _ kvs r0 r ih=>by
  unfold B6 PySem.without at ih ⊢;rw [ky,ky];by_cases h:a=x
  ·simp only [h,ne_eq,not_true_eq_false,decide_false,cR,if_false];exact ih
  ·simp only [h,ne_eq,not_false_eq_true,decide_true,if_true];exact ⟨⟨rfl,r0⟩,ih⟩
theorem Fits.dictSet{es':List (Str × V)}{kvs':List (Str × ay)}(F:Fits B ρ σ fr up env fl s)(hf':i∉up.fz)(hi:ρ[i]? =af a)(hs:ip a s.heap h')
  (hd:h'.DictOf (strKind B.pr B.w) a kvs') (hk:cY ρ es' kvs') (hz:es'.length<=1000000):
  Step ρ (wr up env) s ρ {s with heap:=h',toks:=tk}/\Fits B ρ (σ.set i (.dict es')) fr up env fl {s with heap:=h',toks:=tk}:=by
 refine dy hd λo ds n g1 g2 g3 g4 g5 g6=>?_;exact F.setAt (o:=.dict es') hf' hi hs g1 ⟨⟨ds,n,kvs',g2,g3,g4,g5,g6,hk⟩,hz⟩ tk
theorem qW{x:ay}(hv:cB ρ (.ref i) x)(e:x= .ref a):ρ[i]? =af a:=by
 refine aR hv λb hb h=>?_;rw [e] at h;(injection h with h;subst h);exact hb
theorem Hf{i:V}{x y z:ay}{Q:Unit->aM->Prop}(F:Fits B ρ σ fr up env fl s)(hT:c.aj=B.aj)(e:ny c o i v up.fz ⟨fr,σ⟩=af (u,s₁))(hx:cB ρ o x)(hy:cB ρ i y)(hz:cB ρ v z)
  (q:KA B env fl up ρ s s₁.fr s₁.os () Q):wpAny (model B.pr B.w) A (setItem x y z) Q E s:=by
 refine objE e λob h1 e=>?_;refine bZ e λes w e1=>?_;obtain rfl:=qV w;refine bZ e1 λd w e2=>?_;obtain rfl:=qw w;refine bZ e2 λkk w e3=>?_;obtain rfl:=nB w;refine iA (i5 e3) λh2 h3 Eu q'1=>?_;obtain rfl:=q'1;refine dD (F.dictAt hT h1 hx) λp kvs qI g0 g g2 g3=>?_;have hi:=qW hx qI;subst qI;obtain ⟨t,rfl⟩:=hy;have hl:=g2.length;refine wpAny_setItem_pairs AN g (λh' d1 d2=>?_) (by show _<=2^24;exact Pa hl g3 rfl);obtain ⟨a1,a2⟩:=F.dictSet (tk:=s.toks+1) Eu hi d2 d1 (g2.stored hz) (iK (show decide _=ao from h3));exact q _ _ a1 a2
theorem Hg{i:V}{x y:ay}{Q:Unit->aM->Prop}(F:Fits B ρ σ fr up env fl s)(hT:c.aj=B.aj)(e:xA c o i up.fz ⟨fr,σ⟩=af (u,s₁))(hx:cB ρ o x)(hy:cB ρ i y)
  (q:KA B env fl up ρ s s₁.fr s₁.os () Q):wpAny (model B.pr B.w) A (delItem x y) Q E s:=by
 refine objE e λob h1 e=>?_;refine bZ e λes w e1=>?_;obtain rfl:=qV w;refine bZ e1 λd w e2=>?_;obtain rfl:=qw w;refine bZ e2 λkk w e3=>?_;obtain rfl:=nB w;by_cases hsome:(lookE es kk).isSome=ao
 ·rw [if_pos hsome] at e3;refine iA (i5 e3) λh2 h3 Eu q'2=>?_;obtain rfl:=q'2;refine dD (F.dictAt hT h1 hx) λp kvs qI g0 g g2 g3=>?_;have hi:=qW hx qI;subst qI;obtain ⟨t,rfl⟩:=hy;have hl:=g2.length;have hv:=g2.find.uH.symm.trans hsome;refine wpAny_delItem_slot g.typeIs (by decide+kernel) qm ?_;refine oF qm g.typeIs PySem.F.entry_dict_delitem (PySem.F.args_dict_delitem_2 _ _) (meets_dict_delitem_pairs (strKind B.pr B.w) _ AN) ⟨kvs,g,by show _<=2^24;exact Pa hl g3 rfl,hv,λh' d1 d2=>?_⟩;obtain ⟨a1,a2⟩:=F.dictSet (tk:=s.toks+1) Eu hi d2 d1 g2.without (iK (show decide _=ao from h3));exact q _ _ a1 a2
 ·rw [if_neg hsome] at e3;exact nn e3
theorem E1{ds:Array DictEntry}:tB ds x=(ds.toList.find? λe=>e.key.isStr x).map (·.val):=by
 unfold tB findBy;exact congrArg _ (Array.find?_toList).symm
theorem yM{o:Obj}{ds:Array DictEntry}(hd:o.data= .dict ds n)(hk:StrKeys ds):lookIn x o=af (tB ds x):=by
 unfold lookIn;rw [hd,E1];dsimp only;induction q:ds.toList.find? λe=>e.key.isStr x using aw with
 |some e=>rfl
 |none=>
  dsimp only;rw [if_neg]
  ·rfl
  ·intro h;refine aR (iX.mp h) λe he h=>?_;refine Aq (hk e (vh.mp he)) λm t hm=>?_;simp [DictEntry.refKey,hm] at h
theorem mI{K:r8}{C:bk}(h:tT K C=ao):j9 K (.ref C) "__getattribute__" =af (af (.builtin "object.__getattribute__"))/\j9 K (.ref C) "__getattr__" =af ae/\
  j9 K (.ref C) "__setattr__" =af (af (.builtin "object.__setattr__"))/\plainOver K C=ao/\∃cd,clsIn K C=af cd:=by
 unfold tT at h;simp only [aS,beq_iff_eq] at h;obtain ⟨⟨⟨⟨h1,h2⟩,h3⟩,h4⟩,h5⟩:=h;exact ⟨h1,h2,h3,h4,iE.mp h5⟩
theorem xE{x:ay}(h:EO v=ao)(r:cB ρ v x):handedIn x=ao:=by
 induction v using V.casesOn with
 |bi i=>injection h
 |none=>subst r;rfl
 |bool b=>subst r;rfl
 |int i=>obtain ⟨t,rfl⟩:=r;rfl
 |str i=>obtain ⟨t,rfl⟩:=r;rfl
 |ref i=>refine aR r λa _ q'3=>?_;obtain rfl:=q'3;rfl
 |top a=>subst r;rfl
 |type n=>subst r;rfl
theorem Fits.Dv{C:bk}{s' s'':eP}(F:Fits B ρ σ fr up env fl s)(hT:c.aj=B.aj)(e:eu c v up.fz ⟨fr,σ⟩=af (.inst C d,s'))(hv:cB ρ v val)
  (e':eu c (.ref d) up.fz ⟨fr,σ⟩=af (.ns es,s'')):∃x a o ds n,val= .ref x/\ρ[d]? =af a/\s.heap.get? a=af o/\o.data= .dict ds n/\StrKeys ds/\UniqKeys ds/\(∀y,n8 ρ (lookE es y) (tB ds y))/\
   InstAt s.heap x ⟨.ref C,af a,.plain,#[]⟩ C (af o):=by
 refine d7 (F.obj hT e hv) λ_ r'5=>?_;refine ck r'5 λx r h1 h2 r'6=>?_;refine aR r'6 λa h3 q'4=>?_;obtain rfl:=q'4;obtain ⟨e',_⟩:=uG e';refine ck (F.rep.obj d _ e') λb o g1 g2 r'7=>?_;refine ey r'7 λds n g3 g4 JH g5=>?_;rw [h3] at g1;(injection g1 with g1;subst g1);exact ⟨x,a,o,ds,n,h1,h3,g2,g3,g4,JH,g5,h2,rfl,rfl,g2⟩
theorem Fits.IX{C:bk}{vs:List (Option V)}{s' s'':eP}(F:Fits B ρ σ fr up env fl s)(hT:c.aj=B.aj)(e:eu c v up.fz ⟨fr,σ⟩=af (.slots C d vs,s'))(hv:cB ρ v val)
  (e':eu c (.ref d) up.fz ⟨fr,σ⟩=af (.ns es,s'')):∃x a o sl,val= .ref x/\ρ[d]? =af a/\sl.size<=vs.length/\(∀k:Nat,n8 ρ (vs[k]?).join (sl[k]?).join)/\
   InstAt s.heap x ⟨.ref C,af a,.plain,sl⟩ C (af o):=by
 refine d7 (F.obj hT e hv) λ_ r'9=>?_;refine ck r'9 λx r h1 h2 r'10=>?_;refine ey r'10 λa sl h3 q'8 h4 h5=>?_;obtain rfl:=q'8;obtain ⟨e',_⟩:=uG e';refine ck (F.rep.obj d _ e') λb o g1 g2 r'11=>?_;refine ey r'11 λds n g3 g4 JH g5=>?_;rw [h3] at g1;(injection g1 with g1;subst g1);exact ⟨x,a,o,sl,h1,h3,h4,h5,h2,rfl,rfl,g2⟩
theorem findObj_own{K:r8}{C:bk}{cd:oS}{o:Obj}{a:Str}{v:ay}(hc:clsIn K C=af cd)(hd:cd.hasDict=ao)(hf:j9 K (.ref C) a=af ae)(hl:lookIn a o=af (af v)):
  findObj K C (af o) a=af (.value v):=by
 unfold findObj;rw [hc,ct,hf,ct];dsimp only [ct];delta W.ownOf;refine (if_pos hd)▸ ?_;dsimp only;rw [hl,ct]
theorem zF{K:r8}{C p:bk}{a:Str}(h:sT K C a=af (p,i)):j9 K (.ref C) a=af (af (.ref p))/\r9 K (.ref p) "__get__" =af (af (.builtin "member_descriptor.__get__"))/\yr K (.ref p)=af ao/\
  BN K (.ref p)=af (.type "member_descriptor")/\slotIn K p C=af i:=by
 refine eY h λp' hp h=>?_;by_cases hz:(r9 K (.ref p') "__get__" ==af (af (.builtin "member_descriptor.__get__"))&&yr K (.ref p')==af ao&&BN K (.ref p')==af (.type "member_descriptor"))=ao
 ·rw [if_pos hz] at h;simp only [aS,beq_iff_eq] at hz;refine lmap h λj h1 h2=>?_;obtain ⟨⟩:=h2;exact ⟨IU hp,hz.1.1,hz.1.2,hz.2,h1⟩
 ·rw [if_neg hz] at h;exact nn h
theorem Dw{K:r8}{C p:bk}{cd:oS}{o:Option Obj}{a:Str}(hc:clsIn K C=af cd)(hf:j9 K (.ref C) a=af (af (.ref p)))(h1:r9 K (.ref p) "__get__" =af (af (.builtin "member_descriptor.__get__")))(h2:yr K (.ref p)=af ao):
  findObj K C o a=af (.bind (.builtin "member_descriptor.__get__") (.ref p)):=by
 unfold findObj;rw [hc,ct,hf,ct];dsimp only;rw [h1,ct];dsimp only;rw [h2,ct]
end
section
variable{g:Array nK}{d:Drawn}{t:Nat}{os:gO}{vs:Array ay}
theorem sW:Slot "list_iterator" "__getattribute__" "object.__getattribute__" :=
 Slot.of (T:= "list_iterator") (name:= "__getattribute__") (owner:= "object") (n:= "__getattribute__") (by rw [jz,fR];kernel_rfl) (by decide+kernel) (by decide+kernel) (by decide+kernel)
  (.inl (by decide+kernel)) (by rw [iY];kernel_rfl)
theorem uI:Slot "wrapper_descriptor" "__get__" "wrapper_descriptor.__get__" :=
 Slot.of (T:= "wrapper_descriptor") (name:= "__get__") (owner:= "wrapper_descriptor") (n:= "__get__") (by rw [jz,fR];kernel_rfl) (by decide+kernel) (by decide+kernel) (by decide+kernel)
  (.inl (by decide+kernel)) (by rw [iY];kernel_rfl)
theorem Dx:entryFor table "wrapper_descriptor.__get__" =af Builtin.«wrapper_descriptor.__get__»:=entryFor_of_tree (by kernel_rfl)
theorem E2(a b c:ay):argsOk "wrapper_descriptor.__get__" ⟨[a,b,c],[]⟩:=by unfold argsOk;kernel_rfl
theorem J3:entryFor table "object.__getattribute__" =af Builtin.«object.__getattribute__»:=entryFor_of_tree (by kernel_rfl)
theorem Md(a b:ay):argsOk "object.__getattribute__" ⟨[a,b],[]⟩:=by unfold argsOk;kernel_rfl
theorem sX:typeOf (.builtin "list_iterator.__next__")=aA (.type "wrapper_descriptor"):=by show builtinType _=_;refine builtinType_eq_fast▸ ?_;kernel_rfl
theorem Dy:tw (.type "list_iterator") "__next__" =aA (af (.builtin "list_iterator.__next__")):=by rw [jz,fR];kernel_rfl
theorem Dz:tw (.type "list_iterator") "__getattr__" =aA ae:=by rw [jz,fR];kernel_rfl
theorem E3:tw (.type "wrapper_descriptor") "__set__" =aA ae:=by rw [jz,fR];kernel_rfl
theorem AP:tw (.type "wrapper_descriptor") "__delete__" =aA ae:=by rw [jz,fR];kernel_rfl
theorem E4:r7 (.type "list_iterator") (.type "list_iterator")=aA ao:=by rw [iY];kernel_rfl
theorem B9:(".".intercalate ("list_iterator.__next__".cutAt '.').dropLast)= "list_iterator" :=by
 have e0: "list_iterator.__next__".cutAt '.' = ["list_iterator","__next__"]:=by first|rfl|decide+kernel
 refine e0▸ ?_;decide+kernel
noncomputable abbrev sY(a:bk):Obj:=⟨.type "method-wrapper",ae,.fields #[.builtin "list_iterator.__next__",.ref a],#[]⟩
theorem Mf(hx:h.get? a=af ⟨.type "list_iterator",ae,.fields vs,#[]⟩)(hq:R (.ok (.ret (.ref h.objs.size))) ⟨h.push (sY a),g,d,t,os⟩):
  gP (model prog w) A (.call (.builtin "wrapper_descriptor.__get__") ⟨[.builtin "list_iterator.__next__",.ref a,.type "list_iterator"],[]⟩) R ⟨h,g,d,t,os⟩:=by
 have hT5:(⟨h,g,d,t,os⟩:aM).TypeIs (.builtin "list_iterator.__next__") "wrapper_descriptor" :=sX;have hT:(⟨h,g,d,t,os⟩:aM).TypeIs (.ref a) "list_iterator" :=⟨_,hx,rfl⟩;have f8:r7 (.type "list_iterator") (.type (".".intercalate ("list_iterator.__next__".cutAt '.').dropLast))=aA ao:=by rw [B9];exact E4
 refine nN uI.plain Dx (uI.check _ _ _ _ _ _ _ _ hT5 (E2 _ _ _) ?_);unfold Builtin.«wrapper_descriptor.__get__»
 repeat (any_goals (first|assumption|wp_step))
theorem Hh{tk:Tok}{Q:Fin->aM->Prop}(hx:h.get? a=af ⟨.type "list_iterator",ae,.fields vs,#[]⟩)(hq:Q (.done (.ret (.ref h.objs.size))) ⟨h.push (sY a),g,d,t,os⟩):
  wpAny (model prog w) A (Builtin.«object.__getattribute__» ⟨[.ref a,.str "__next__" tk],[]⟩) Q E ⟨h,g,d,t,os⟩:=by
 have hT:(⟨h,g,d,t,os⟩:aM).TypeIs (.ref a) "list_iterator" :=⟨_,hx,rfl⟩;have hT5:(⟨h,g,d,t,os⟩:aM).TypeIs (.builtin "list_iterator.__next__") "wrapper_descriptor" :=sX;have f4:=Dy;have f5:=sX;have f6:=uI.lookup;have f7:=E3;have f9:=AP
 repeat (any_goals (first|assumption|wp_step))
 refine Mf hx ?_
 repeat (any_goals (first|assumption|wp_step))
theorem J4{tk:Tok}(hx:h.get? a=af ⟨.type "list_iterator",ae,.fields vs,#[]⟩)(hq:R (.ok (.ret (.ref h.objs.size))) ⟨h.push (sY a),g,d,t,os⟩):
  gP (model prog w) A (.call (.builtin "object.__getattribute__") ⟨[.ref a,.str "__next__" tk],[]⟩) R ⟨h,g,d,t,os⟩:=
 nN sW.plain J3 (sW.check _ _ _ _ _ _ _ _ (show (⟨h,g,d,t,os⟩:aM).TypeIs (.ref a) "list_iterator" from ⟨_,hx,rfl⟩) (Md _ _) (Hh hx hq))
theorem J5{expr:Bool}(hx:h.get? a=af ⟨.type "list_iterator",ae,.fields vs,#[]⟩)(hq:Q (.ref h.objs.size) ⟨h.push (sY a),g,d,t+1,os⟩):
  wpAny (model prog w) A (oE (.ref a) "__next__" expr) Q E ⟨h,g,d,t,os⟩:=by
 have hT:(⟨h,g,d,t+1,os⟩:aM).TypeIs (.ref a) "list_iterator" :=⟨_,hx,rfl⟩;have f2:=sW.lookup;have f3:=sW.bind (.ref a);have f4:=Dz;have hx0:(expr&&onTheHeap (rx "object.__getattribute__"))=bf:=by obtain ⟨⟩:=expr<;>rfl
 unfold oE
 repeat (any_goals (first|assumption|wp_step))
 refine J4 hx ?_;exact bF hq
end
section
variable{k:Lv}
theorem AQ{k:Str}:lookE (jY es k v) y=if y=k then af v else lookE es y:=by
 unfold jY;have app:∀es:List (Str × V),es.any (λe=>e.1=k)=bf->lookE (es++ [(k,v)]) y=if y=k then af v else lookE es y:=by
  intro es;induction es with
  |nil=>
   intro _;simp only [dS,lookE];by_cases h:y=k
   ·subst h;rfl
   ·rw [if_neg (λe=>h e.symm),if_neg h]
  |cons e r ih=>
   intro h;obtain ⟨a,b⟩:=e;rw [rz,Bool.or_eq_false_iff] at h;have ha:¬a=k:=by simpa using h.1
   simp only [e9,lookE];by_cases hy:a=y
   ·subst hy;rw [if_pos rfl,if_pos rfl,if_neg ha]
   ·rw [if_neg hy,if_neg hy,ih h.2]
 have mp:∀es:List (Str × V),es.any (λe=>e.1=k)=ao->lookE (es.map λe=>if e.1=k then (e.1,v) else e) y=if y=k then af v else lookE es y:=by
  intro es;induction es with
  |nil=>intro h;injection h
  |cons e r ih=>
   intro h;obtain ⟨a,b⟩:=e;refine bx▸ ?_;by_cases ha:a=k
   ·subst ha;simp only [if_true,lookE];by_cases hy:a=y
    ·subst hy;rw [if_pos rfl,if_pos rfl]
    ·rw [if_neg hy,if_neg (λe=>hy e.symm),if_neg hy];induction q:r.any (λe=>e.1=a) using cG with
     |true=>(refine (ih q).trans ?_;exact (if_neg (λe=>hy e.symm)))
     |false=>
      congr 1;refine (d9 λe he=>?_).trans (List.map_id r);rw [if_neg]
      ·rfl
      ·intro h';have:=yu.mp q e he;simp [h'] at this
   ·simp only [ha,if_false,lookE];rw [rz] at h;have:r.any (λe=>e.1=k)=ao:=by simpa [ha] using h
    by_cases hy:a=y
    ·subst hy;rw [if_pos rfl,if_pos rfl,if_neg ha]
    ·rw [if_neg hy,if_neg hy,ih this]
 induction q:es.any (λe=>e.1=k) using cG with
 |true=>refine (if_pos rfl)▸ ?_;exact mp es q
 |false=>rw [if_neg (by decide)];exact app es q
theorem Hj{a:Str}{x:ay}{C:bk}{d:Nat}(F:Fits B ρ σ fr up env fl s)(H:ej c B)(h1:eu c o up.fz ⟨fr,σ⟩=af (.inst C d,⟨fr,σ⟩))(e2:IB c a C d up.fz ⟨fr,σ⟩=af (v,s₁))(hx:cB ρ o x)
  (q:KV B env fl up ρ s s₁.fr s₁.os v Q):wpAny (model B.pr B.w) A (oE x a ao) Q E s:=by
 have hT:=H.aj;refine objE e2 λod h2 e3=>?_;refine bZ e3 λes w e4=>?_;obtain rfl:=LZ w;refine nD e4 λv' j3 e5=>?_;refine xC e5 λhb e6=>?_;obtain ⟨rfl,rfl⟩:=aK e6;rw [H.K] at j3;refine Lu j3 λhz j3=>?_;simp only [aS,beq_iff_eq] at hz;obtain ⟨⟨hz1,hz2⟩,GG⟩:=hz;refine iJ (mI hz1) λk1 k2 k3 k4 r'1=>?_;refine lG r'1 λcd k5=>?_;rw [k5] at hz2;refine gM (F.Dv hT h1 hx h2) λp pa ho ds r'3=>?_;refine vC r'3 λn q'2 g1 g2 g3 g4 r'4=>?_;refine cW r'4 λJH g5 I=>?_;obtain rfl:=q'2;have:=g5 a;rw [j3] at this;refine aR this λy hy ry=>?_;exact get_value F.isIn I k1 (findObj_own k5 hz2 GG (by rw [yM g3 g4,hy])) (xE hb ry) (q.toks F ry)
theorem Hl{a:Str}{x:ay}{C:bk}{d:Nat}{vs:List (Option V)}(F:Fits B ρ σ fr up env fl s)(H:ej c B)(h1:eu c o up.fz ⟨fr,σ⟩=af (.slots C d vs,⟨fr,σ⟩))(e2:IC c a C d vs up.fz ⟨fr,σ⟩=af (v,s₁))(hx:cB ρ o x)
  (q:KV B env fl up ρ s s₁.fr s₁.os v Q):wpAny (model B.pr B.w) A (oE x a ao) Q E s:=by
 have hT:=H.aj;refine objE e2 λod h2 e3=>?_;refine bZ e3 λes w e4=>?_;obtain rfl:=LZ w;refine nD e4 λpi j3 e5=>?_;refine nD e5 λv' j4 e6=>?_;refine xC e6 λhb e7=>?_;obtain ⟨rfl,rfl⟩:=aK e7;rw [H.K] at j3;refine Lu j3 λhz j3=>?_;refine iJ (mI hz) λk1 k2 k3 k4 r'5=>?_;refine lG r'5 λcd k5=>?_;refine iJ (zF (p:=pi.1) (i:=pi.2) j3) λm1 m2 m3 m4 m5=>?_;refine uo (F.IX hT h1 hx h2) λp pa ho sl q'6 g1 g2 g3 I=>?_;obtain rfl:=q'6;have:=g3 pi.2;rw [j4] at this;refine aR this λy hy ry=>?_;refine get_bind F.isIn I k1 (Dw k5 m1 m2 m3) k2 ?_;refine pS (slot_get (s:={s with toks:=s.toks+1}) F.isIn I m5 hy ?_);show wpAny _ _ (handedOut y) _ _ _;refine (handedOut_of (xE hb ry))▸ ?_;exact bF (q.toks F ry)
theorem Hm{a:Str}{x:ay}{l k:Nat}(F:Fits B ρ σ fr up env fl s)(H:ej c B)(h1:eu c o up.fz ⟨fr,σ⟩=af (.kP l k,⟨fr,σ⟩))(e2:ID o a up.fz ⟨fr,σ⟩=af (v,s₁))(hx:cB ρ o x)
  (q:KV B env fl up ρ s s₁.fr s₁.os v Q):wpAny (model B.pr B.w) A (oE x a ao) Q E s:=by
 have hT:=H.aj;refine xC e2 λha e3=>?_;refine bZ e3 λi w e4=>?_;obtain rfl:=qw w;refine cW (eQ e4) λhz q'7 q'8=>?_;obtain rfl:=q'7;obtain rfl:=q'8;refine d7 (F.obj hT h1 hx) λ_ r'11=>?_;refine ck r'11 λp r q'9 g1 r'12=>?_;refine aR r'12 λl g2 q'10=>?_;obtain rfl:=q'9;obtain rfl:=q'10;have hi:=qW hx rfl;subst ha;obtain ⟨hp,g,d,tk,os⟩:=s;refine J5 g1 ?_;exact q.alloc (tk:=tk+1) F ⟨p,hi,rfl⟩
theorem J6{a:Str}{x:ay}{C:bk}{t:Nat}(F:Fits B ρ σ fr up env fl s)(H:ej c B)(h1:eu c o up.fz ⟨fr,σ⟩=af (.exc C t,⟨fr,σ⟩))(e2:LK c a C t up.fz ⟨fr,σ⟩=af (v,s₁))(hx:cB ρ o x)
  (q:KV B env fl up ρ s s₁.fr s₁.os v Q):wpAny (model B.pr B.w) A (oE x a ao) Q E s:=by
 have hT:=H.aj;refine xC e2 λha e4=>?_;obtain ⟨rfl,rfl⟩:=aK e4;refine d7 (F.obj hT h1 hx) λ_ r'14=>?_;refine ck r'14 λp r q'13 g1 r'15=>?_;refine ey r'15 λt0 fs g2 g3 g4 g5=>?_;obtain rfl:=q'13;obtain ⟨rfl,hC⟩:=ha;rw [H.ie] at hC;exact B.args hC F.base g1 g3 g4 g5 (q.toks F ⟨t0,g2,rfl⟩)
theorem IY{a:Str}{x:ay}(F:Fits B ρ σ fr up env fl s)(H:ej c B)(e:eE c o a up.fz ⟨fr,σ⟩=af (v,s₁))(hx:cB ρ o x)
  (q:KV B env fl up ρ s s₁.fr s₁.os v Q):wpAny (model B.pr B.w) A (oE x a ao) Q E s:=by
 refine objE e λob h1 e1=>?_;refine eh e1 (λ_ w e2=>?_) (λ_ e1=>?_)
 ·obtain rfl:=Ds w;exact Hj F H h1 e2 hx q
 refine eh e1 (λ_ w e2=>?_) (λ_ e1=>?_)
 ·obtain rfl:=IS w;exact Hl F H h1 e2 hx q
 refine eh e1 (λ_ w e2=>?_) (λ_ e1=>?_)
 ·obtain rfl:=IQ w;exact Hm F H h1 e2 hx q
 refine bZ e1 λ_ w e2=>?_;obtain rfl:=RQ w;exact J6 F H h1 e2 hx q
theorem J7{C:bk}{d:Nat}{pa:bk}{vs:List (Option V)}{y:ay}(hd:ρ[d]? =af pa)(hi:i<vs.length)(hz:sl.size<=vs.length)(hv:∀k:Nat,n8 ρ (vs[k]?).join (sl[k]?).join)(hy:cB ρ v y):
  ou B.pr B.w ρ (.slots C d (vs.set i (af v))) ⟨.ref C,af pa,.plain,(sl++ic (i+1-sl.size) ae).setIfInBounds i (af y)⟩:=by
 refine ⟨pa,_,hd,rfl,?_,λk=>?_⟩
 ·simp;exact (yv _ _).elim (λq=>ai (ar (fG q)) hi) λq=>by rw [ud q];exact hz
 ·by_cases hk:k=i
  ·subst hk;refine (dX hi)▸ ?_;have:((sl++ic (k+1-sl.size) ae).setIfInBounds k (af y))[k]? =af (af y):=by
    refine (nY).trans ?_;simp;exact Nat.sub_le_iff_le_add'.mp (ax _)
   rw [this];exact ⟨y,rfl,hy⟩
  ·rw [bH (λe=>hk e.symm)];have:(((sl++ic (i+1-sl.size) ae).setIfInBounds i (af y))[k]?).join=(sl[k]?).join:=by
    rw [nY,if_neg (λe=>hk e.symm)];rcases ew k sl.size with h|h
    ·exact congrArg _ (Array.getElem?_append_left h)
    ·rw [Array.getElem?_append_right h,Array.getElem?_eq_none h];induction q:(ic (i+1-sl.size) (ae:Option ay))[k-sl.size]? using aw with
     |none=>rfl
     |some z=>
      rw [Array.getElem?_replicate] at q;split at q
      ·(injection q with q;subst q);rfl
      ·exact nn q
   rw [this];exact hv k
theorem Mg{C p x:bk}{od:Option Obj}{ox:Obj}{v:ay}(X:B.K.In s.heap)(I:InstAt s.heap x ox C od)(hp:slotIn B.K p C=af i)(hi:i<1000)
  (h:R (.ok (.ret .none)) {s with heap:=s.heap.update x λo=>{o with slots:=(o.slots++ic (i+1-o.slots.size) ae).setIfInBounds i (af v)}}):
  gP (model B.pr B.w) A (.call (.builtin "member_descriptor.__set__") ⟨[.ref p,.ref x,v],[]⟩) R s:=by
 refine gM (slot_of X hp) λn tn owner behind r'17=>?_;refine uo r'17 λtb d sl cd ho hc hm hb q'16=>?_;obtain rfl:=q'16;obtain ⟨hh,g,dr,t,os⟩:=s;have L0:=I.type (M:=model B.pr B.w);have L1:=looks_mroIn (M:=model B.pr B.w) X hm;have L2:Looks (model B.pr B.w) hh (Builtin.Slots.slotNamesOf (.ref C)) cd.slotNames:=(looks_clsIn X hc).andThen .now;have hx:=I.at_;dsimp only at ho hx L0 L1;have f0:=vj (M:=model B.pr B.w) ho 0 (v:=.str n tn) rfl;have f1:=vj (M:=model B.pr B.w) ho 1 (v:=owner) rfl;have f3:=vj (M:=model B.pr B.w) ho 3 (v:=.builtin "proto.slot#set") rfl;have f4:=vj (M:=model B.pr B.w) ho 4 (v:=.int behind tb) rfl;have f5:Looks (model B.pr B.w) hh (vT (.ref p)) [.ref p]:=((Looks.ld (part:=none) ho).andThen .now).andThen (wy (by kernel_rfl));refine nN yw.plain KF.entry_mset (yw.check _ _ _ _ _ _ _ _ ⟨_,ho,rfl⟩ (KF.args_mset _ _ _) ?_);unfold Builtin.«member_descriptor.__set__» w8 sM sd sN isInstance
 repeat lk
 refine ⟨w9 _ (by decide+kernel),t6 KF.entry_slotset ?_⟩;unfold Builtin.«proto.slot#set» Builtin.Slots.target
 repeat lk
 refine (if_neg hb)▸ ?_;refine bF (aB ?_);unfold setSlotAt;dsimp only;rw [if_neg (by rw [sizeLine_eq];exact tu.mpr (aD hi (ak rfl)))];exact wpAny_updatePart hx (bF h)
theorem J8(h:lookE es x≠ae):x∈es.map (·.1):=by
 induction es with
 |nil=>exact absurd rfl h
 |cons e r ih=>
  obtain ⟨k,v⟩:=e;dsimp only [lookE] at h;by_cases hk:k=x
  ·simp [hk]
  ·rw [if_neg hk] at h;exact i8 _ (ih h)
theorem Px{o:Obj}{ds:Array DictEntry}(ho:h.get? a=af o)(r:ou B.pr B.w ρ (.ns es) o)(hd:o.data= .dict ds n):ds.size<=es.length:=by
 refine ey r λds' n' h1 h2 h3 h4=>?_;rw [hd] at h1;obtain ⟨⟩:=h1;have:=Heap.Ns1.count (h:=h) (a:=a) (m:=tB ds) (ns:=es.map (·.1)) ⟨o,ds,n,ho,hd,h2,h3,λ_=>rfl⟩ (λy hy=>J8 λq=>hy (by
  have:=h4 y;rw [q] at this;exact this))
 refine jo this λo' es' ep k1 k2 k3=>?_;rw [ho] at k1;(injection k1 with k1;subst k1);rw [hd] at k2;obtain ⟨⟩:=k2;simpa using k3
theorem Hn{a:Str}{x y:ay}{Q:Unit->aM->Prop}{C:bk}{d:Nat}(F:Fits B ρ σ fr up env fl s)(H:ej c B)(h1:eu c o up.fz ⟨fr,σ⟩=af (.inst C d,⟨fr,σ⟩))(e2:IE c a v C d up.fz ⟨fr,σ⟩=af (u,s₁))(hx:cB ρ o x)(hy:cB ρ v y)
  (q:KA B env fl up ρ s s₁.fr s₁.os () Q):wpAny (model B.pr B.w) A (Ao x a y) Q E s:=by
 have hT:=H.aj;refine objE e2 λod h2 e3=>?_;refine bZ e3 λes w e4=>?_;obtain rfl:=LZ w;refine xC e4 λhz e5=>?_;rw [H.K] at hz;simp only [aS,beq_iff_eq] at hz;obtain ⟨⟨hz1,hz2⟩,GG⟩:=hz;refine iJ (mI hz1) λk1 k2 k3 k4 r'18=>?_;refine lG r'18 λcd k5=>?_;rw [k5] at hz2;refine iA (i5 e5) λh3 h4 Eu q'19=>?_;obtain rfl:=q'19;refine gM (F.Dv hT h1 hx h2) λp pa ho ds r'21=>?_;refine vC r'21 λn q'20 g1 g2 g3 g4 r'22=>?_;refine cW r'22 λJH g5 I=>?_;obtain rfl:=q'20;have F':=F.toks (s.toks+1);refine set_plain F.isIn I k3 ?_;refine osa_open (s:={s with toks:=s.toks+1}) F.isIn I k4 GG λb=>?_;refine aB (bF (aB (aB (wpAny_loadPart I.at_ (aB ((looks_clsIn (K:=B.K) F'.isIn k5).here ?_))))));rw [show cd.hasDict=ao from hz2];refine bF (a:=af pa) (aB (bF (aB ?_)));have hn:s.heap.Ns1 pa (tB ds):=⟨ho,ds,n,g2,g3,g4,JH,λ_=>rfl⟩;refine wpAny_nsSet1 (s:={s with toks:=s.toks+1}) hn λh' n1 n2=>?_;refine jV n1 λo' ds' n' m1 m2 m3 m3' m4=>?_;have rel:ou B.pr B.w ρ (.ns (jY _ a v)) o':=⟨ds',n',m2,m3,m3',λz=>by
  rw [AQ,m4];show n8 ρ (if z=a then af v else _) (if z=a then af y else _);by_cases hz:z=a
  ·rw [if_pos hz,if_pos hz];exact ⟨y,rfl,hy⟩
  ·rw [if_neg hz,if_neg hz];exact g5 z⟩
 have hsz:=Px m1 rel m2;have hle:=iK (show decide _=ao from h4);refine aB (wpAny_lookBehind m1 (by refine m2▸ ?_;exact pastItsLine_dict (by refine sizeLine_eq▸ ?_;exact qi (ai hsz hle) rfl)) (bF ?_));obtain ⟨a1,a2⟩:=F.setAt Eu g1 n2 m1 rel (s.toks+1+1);exact q _ _ a1 a2
theorem Ho{a:Str}{x y:ay}{Q:Unit->aM->Prop}{C:bk}{d:Nat}{vs:List (Option V)}(F:Fits B ρ σ fr up env fl s)(H:ej c B)(h1:eu c o up.fz ⟨fr,σ⟩=af (.slots C d vs,⟨fr,σ⟩))(e2:IF c o a v C d vs up.fz ⟨fr,σ⟩=af (u,s₁))(hx:cB ρ o x)(hy:cB ρ v y)
  (q:KA B env fl up ρ s s₁.fr s₁.os () Q):wpAny (model B.pr B.w) A (Ao x a y) Q E s:=by
 have hT:=H.aj;refine bZ e2 λi w e4=>?_;obtain rfl:=qw w;refine objE e4 λod h2 e5=>?_;refine bZ e5 λes w e6=>?_;obtain rfl:=LZ w;refine nD e6 λpi j3 e7=>?_;refine xC e7 λhz e8=>?_;rw [H.K] at hz j3;refine cW hz λhz1 hz2 GG=>?_;refine iA (i5 e8) λh4 h5 Eu q'23=>?_;obtain rfl:=q'23;refine Lu j3 λhc j3=>?_;refine iJ (mI hc) λk1 k2 k3 k4 r'24=>?_;refine lG r'24 λcd k5=>?_;refine iJ (zF (p:=pi.1) (i:=pi.2) j3) λm1 m2 m3 m4 m5=>?_;refine uo (F.IX hT h1 hx h2) λp pa ho sl qI g1 g2 g3 I=>?_;have hi:=qW hx qI;subst qI;refine set_plain F.isIn I k3 ?_;refine osa_descr (s:={s with toks:=s.toks+1}) yw F.isIn I k4 GG m4 ?_;refine Mg (s:={s with toks:=s.toks+1}) F.isIn I m5 hz2 ?_;have hs:ip p s.heap (s.heap.update p λo=>{o with slots:=(o.slots++ic (pi.2+1-o.slots.size) ae).setIfInBounds pi.2 (af y)}):=kK ..;have hr:=fS (λo=>{o with slots:=(o.slots++ic (pi.2+1-o.slots.size) ae).setIfInBounds pi.2 (af y)}) I.at_ rfl;obtain ⟨a1,a2⟩:=F.setAt Eu hi hs hr (J7 g1 hz1 g2 g3 hy) (s.toks+1);exact q _ _ a1 a2
theorem AR{a:Str}{x y:ay}{Q:Unit->aM->Prop}(F:Fits B ρ σ fr up env fl s)(H:ej c B)(e:ec c o a v up.fz ⟨fr,σ⟩=af (u,s₁))(hx:cB ρ o x)(hy:cB ρ v y)
  (q:KA B env fl up ρ s s₁.fr s₁.os () Q):wpAny (model B.pr B.w) A (Ao x a y) Q E s:=by
 refine objE e λob h1 e1=>?_;refine eh e1 (λ_ w e2=>?_) (λ_ e1=>?_)
 ·obtain rfl:=Ds w;exact Hn F H h1 e2 hx hy q
 refine bZ e1 λ_ w e2=>?_;obtain rfl:=IS w;exact Ho F H h1 e2 hx hy q
end
theorem zW(l:bk)(items:Array ay):Meets (Builtin.«bool.__new__» ⟨[.type "bool",.ref l],[]⟩)
  (λ_ R s=>s.heap.IsList l items/\(items.size:Int)<2^63/\R (.ok (.ret (.bool (!items.isEmpty)))) {s with toks:=s.toks+1+1}):=
 Meets.of_wp λprog w A R s hs=>by
  obtain ⟨hp,g,d,tk,os⟩:=s;refine cW hs λhl hz hr=>?_;have f1:=F.conv_sub_bool
  repeat (any_goals (first|assumption|with_reducible refine wpAny_truthy_list hl hz ?_ |wp_step))
  all_goals first|exact ⟨_,rfl,hr⟩|skip
section
variable{k:Lv}
theorem Fits.grown(F:Fits B ρ σ fr up env fl s)(hk:∀b o,s.heap.get? b=af o->h'.get? b=af o)(tk:Nat):
  Step ρ (wr up env) s ρ {s with heap:=h',toks:=tk}/\Fits B ρ σ fr up env fl {s with heap:=h',toks:=tk}:=by
 have st:Step ρ (wr up env) s ρ {s with heap:=h',toks:=tk}:=⟨⟨[],by simp,λa ha=>nomatch ha⟩,λb o e=>⟨o,hk b o e⟩,λb o e _ _=>hk b o e,λb _ _ o e=>⟨o,hk b o e,rfl⟩,rfl,rfl,rfl⟩;exact ⟨st,F.step st (F.rep.other λb o e _=>hk b o e) (F.mv.keep st.ext' λa _ o e=>hk a o e)⟩
theorem bM.nil_inv(h:bM ρ [] ys):ys= []:=by induction ys using aC with|nil=>rfl|cons _ _=>obtain ⟨⟩:=h
theorem bM.cons_inv{x:V}(h:bM ρ (x::xs) ys):∃y zs,ys=y::zs/\cB ρ x y/\bM ρ xs zs:=by
 induction ys using aC with
 |nil=>obtain ⟨⟩:=h
 |cons y zs=>exact ⟨y,zs,rfl,h.1,h.2⟩
theorem bM.one{x:V}(h:bM ρ [x] ys):∃y,ys= [y]/\cB ρ x y:=by
 refine ck h.cons_inv λy zs q'1 h1 h2=>?_;obtain rfl:=q'1;rw [h2.nil_inv];exact ⟨y,rfl,h1⟩
theorem J9(h:SQ x=af v):∃z,x=⟨#[z]⟩/\v= .int (z:Nat):=by
 obtain ⟨⟨l⟩⟩:=x;delta SQ at h;dsimp only at h;induction l using aC with
 |nil=>exact nn h
 |cons y l=>induction l using aC with
  |nil=>(injection h with h;subst h);exact ⟨_,rfl,rfl⟩
  |cons _ _=>exact nn h
theorem bM.empty{ys:Array ay}(h:bM ρ xs ys.toList):ys.isEmpty=xs.isEmpty:=by
 have:=h.length;induction xs using aC with
 |nil=>simpa [Cs] using this.symm
 |cons x xs=>induction q:ys.isEmpty using cG with
  |false=>rfl
  |true=>simp [yt] at q;subst q;trivial
theorem wO{xs:List ay}{f:V->M α}{s:eP}{r:α × eP}(e:ff (oV as) f z s=af r)(hx:bM ρ as xs)(k:∀v x,xs= [x]->cB ρ v x->f v z s=af r->C):C:=
 bZ e λv w e=>by
  rw [AJ w] at hx;exact aR hx.one λx h1 h2=>k v x h1 h2 e
theorem Mh{xs:List ay}{f:Unit->M α}{s:eP}{r:α × eP}(e:ff (GR as) f z s=af r)(hx:bM ρ as xs)(k:xs= []->f () z s=af r->C):C:=
 bZ e λv w e=>by
  rw [VJ w] at hx;exact k hx.nil_inv e
theorem To{xs:List ay}(F:Fits B ρ σ fr up env fl s)(hT:c.aj=B.aj)(e:SR c as up.fz ⟨fr,σ⟩=af (v,s₁))(hx:bM ρ as xs)
  (q:KV B env fl up ρ s s₁.fr s₁.os v Q):wpAny (model B.pr B.w) A (call (.builtin "len") xs) Q E s:=by
 refine wO e hx λa x q'5 qk e=>?_;subst q'5;refine objE e λob h1 e=>?_;refine bZ e λys w e1=>?_;obtain ⟨rfl,rfl⟩:=aK e1;refine vR (Ae w) (λw=>?_) λw=>?_
 ·subst w;refine b9 (F.jC hT h1 qk) λp ys n q'6 g1 g2 g3=>?_;subst q'6;rw [g2.length.trans cj] at q;exact len_list ⟨_,g1,rfl,n,rfl⟩ (SK g3 (by decide)) (q.toks F ⟨_,rfl⟩)
 ·subst w;refine b9 (F.mG hT h1 qk) λp ys n q'7 g1 g2 g3=>?_;subst q'7;rw [g2.length.trans cj] at q;exact P.len_tuple g1 (Int.not_le.mpr (SK g3 (by decide))) (q.toks F ⟨_,rfl⟩)
theorem Tp{xs:List ay}(F:Fits B ρ σ fr up env fl s)(e:SS as up.fz ⟨fr,σ⟩=af (v,s₁))(hx:bM ρ as xs)
  (q:KV B env fl up ρ s s₁.fr s₁.os v Q):wpAny (model B.pr B.w) A (call (.builtin "ord") xs) Q E s:=by
 refine wO e hx λa x q'5 qk e=>?_;subst q'5;refine Hb e qk λt u q'6 e=>?_;subst q'6;obtain ⟨h2,rfl⟩:=jB e;refine aR (J9 h2) λz q'11 q'12=>?_;subst q'11;subst q'12;exact P.ord_of_char (q.toks F ⟨_,rfl⟩)
theorem Tq{xs:List ay}(F:Fits B ρ σ fr up env fl s)(e:Ph as up.fz ⟨fr,σ⟩=af (v,s₁))(hx:bM ρ as xs)
  (q:KV B env fl up ρ s s₁.fr s₁.os v Q):wpAny (model B.pr B.w) A (call (.builtin "chr") xs) Q E s:=by
 refine wO e hx λa x q'5 qk e=>?_;subst q'5;refine Du e qk λt u q'6 e=>?_;subst q'6;refine xC e λhz e=>?_;obtain ⟨rfl,rfl⟩:=aK e;exact chr_of_range hz.1 (Int.le_of_lt_add_one hz.2) (q.toks F ⟨_,rfl⟩)
theorem Mi{xs:List ay}(F:Fits B ρ σ fr up env fl s)(hT:c.aj=B.aj)(e:LP c as up.fz ⟨fr,σ⟩=af (v,s₁))(hx:bM ρ as xs)
  (q:KV B env fl up ρ s s₁.fr s₁.os v Q):wpAny (model B.pr B.w) A (call (.builtin "iter") xs) Q E s:=by
 refine wO e hx λa x q'5 qk e=>?_;subst q'5;refine bZ e λi w e1=>?_;obtain rfl:=qw w;refine listE e1 F hT qk λys p zs n qI g1 g2 g3 e2=>?_;refine cW (eQ e2) λhz q'17 q'18=>?_;subst q'17;subst q'18;have hi:=qW qk qI;subst qI;refine qo (by decide+kernel) (by decide+kernel) kdk_entry_iter (kdk_args_iter _) ?_;unfold Builtin.«iter»;refine aB (m:=someArgs "iter" 1 2 _) (nO (a:=[cC p]) (by first|rfl|kernel_rfl) ?_);show wpAny _ _ (rB (.ref p)>>=_) _ _ _;refine aB (wpAny_pyIter_list ⟨_,g1,rfl,n,rfl⟩ ?_);exact bF ⟨_,rfl,q.alloc F ⟨p,hi,rfl⟩⟩
end
section
variable{k:Lv}
theorem Fits.DA{o:O}{r:Obj}(F:Fits B ρ σ fr up env fl s)(hf':i∉up.fz)(hi:ρ[i]? =af a)(hk:∀b ob,b≠a->s.heap.get? b=af ob->s'.heap.get? b=af ob)
  (hr:s'.heap.get? a=af r) (hf:ou B.pr B.w ρ o r) (hg:s'.gens=s.gens) (hd:s'.drawn=s.drawn) (hos:s'.os=s.os):Step ρ (wr up env) s ρ s'/\Fits B ρ (σ.set i o) fr up env fl s':=by
 have Co:=bN hi;have l1:i<ρ.length:=by
  rcases ew i ρ.length with q|q
  ·exact q
  ·rw [eG q] at hi;exact nn hi
 have st:Step ρ (wr up env) s ρ s':=⟨⟨[],by simp,λa ha=>nomatch ha⟩,λb o e=>by
   by_cases hb:b=a
   ·subst hb;exact ⟨r,hr⟩
   ·exact ⟨o,hk b o hb e⟩,λb o e h1 _=>hk b o (by
   rintro rfl;rcases h1 with h1|⟨j,hj,h1⟩
   ·exact h1 Co
   ·have:=(iq l1 F.rep.nd).mp (hi.trans h1.symm);subst this;exact hf' hj) e,λb hb _ o e=>⟨o,hk b o (by rintro rfl;exact (F.Dt _ hb).2.1 Co) e,rfl⟩,hg,hos,hd⟩
 refine ⟨st,F.step st ⟨by rw [dI];exact F.rep.len,F.rep.nd,F.rep.new,λj o' ho=>?_,λb o' hb=>?_⟩ (F.mv.keep st.ext' λb hb o e=>hk b o (by rintro rfl;exact F.rM _ hb Co) e)⟩
 ·by_cases hij:i=j
  ·subst hij;rw [dX (by rw [←F.rep.len];exact l1)] at ho;(injection ho with ho;subst ho);exact ⟨a,r,hi,hr,hf⟩
  ·rw [bH hij] at ho;refine ck (F.rep.obj j o' ho) λb r' h1 h2 h3=>?_;exact ⟨b,r',h1,hk b r' (by rintro rfl;exact hij ((iq l1 F.rep.nd).mp (hi.trans h1.symm))) h2,h3⟩
 ·exact hk b o' (by rintro rfl;rw [F.rep.new _ Co] at hb;exact nn hb) (F.rep.keep b o' hb)
theorem CH(a:Str)(l:List Str):(JW a l).Perm (a::l):=by
 induction l with
 |nil=>exact .refl _
 |cons b r ih=>
  dsimp only [JW];by_cases h:ltB b a=ao
  ·rw [if_pos h];exact (ih.cons b).trans (.swap ..)
  ·rw [if_neg h]
theorem oZ(l:List Str):(rK l).Perm l:=by
 induction l with
 |nil=>exact .refl _
 |cons a r ih=>exact (CH a (rK r)).trans (ih.cons a)
def leB(a b:Str):Prop:=¬(b.cps.toList<a.cps.toList)
theorem ltB_iff{a b:Str}:ltB a b=ao↔a.cps.toList<b.cps.toList:=by
 unfold ltB;rw [ltCps_eq];exact decide_eq_true_iff
theorem CI{a b c:Str}(h:leB a b)(h':leB b c):leB a c:=by
 have h1:a.cps.toList<=b.cps.toList:=h;have h2:b.cps.toList<=c.cps.toList:=h';exact (List.le_trans h1 h2:a.cps.toList<=c.cps.toList)
theorem xF{a b:Str}(h:leB a b)(h':leB b a):a=b:=by
 have h1:a.cps.toList<=b.cps.toList:=h;have h2:b.cps.toList<=a.cps.toList:=h';have:=List.le_antisymm h1 h2;obtain ⟨⟨x⟩⟩:=a;obtain ⟨⟨y⟩⟩:=b;exact congrArg (λl=>(⟨⟨l⟩⟩:Str)) this
theorem E5(a:Str)(l:List Str)(h:l.Pairwise leB):(JW a l).Pairwise leB:=by
 induction l with
 |nil=>exact sf _ _
 |cons b r ih=>
  have h1:=ji.mp h;dsimp only [JW];by_cases hb:ltB b a=ao
  ·rw [if_pos hb];refine ji.mpr ⟨λx hx=>?_,ih h1.2⟩;rcases jJ ((CH a r).mem_iff.mp hx) with rfl|hx
   ·exact λq=>absurd (ltB_iff.mp hb) (List.lt_asymm q)
   ·exact h1.1 x hx
  ·rw [if_neg hb];have hab:leB a b:=λq=>hb (ltB_iff.mpr q);refine ji.mpr ⟨λx hx=>?_,h⟩;rcases jJ hx with rfl|hx
   ·exact hab
   ·exact CI hab (h1.1 x hx)
theorem xG(l:List Str):(rK l).Pairwise leB:=by
 induction l with
 |nil=>exact .nil
 |cons a r ih=>exact E5 a _ ih
theorem Ka(l:List Str):∀p,risingS p l=ao->(p::l).Pairwise leB:=by
 induction l with
 |nil=>intro p _;exact sf _ _
 |cons x r ih=>
  intro p h;have h':(!PySem.Spec.ltCps x.cps.toList p.cps.toList&&risingS x r)=ao:=h;rw [aS] at h';have h2:=ih x h'.2;have hpx:leB p x:=λq=>by have:=ltB_iff.mpr q;unfold ltB at this;rw [this] at h';exact absurd h'.1 (by decide)
  refine ji.mpr ⟨λy hy=>?_,h2⟩;rcases jJ hy with rfl|hy
  ·exact hpx
  ·exact CI hpx ((ji.mp h2).1 y hy)
theorem CJ(h:sortedS l=ao):l.Pairwise leB:=by
 induction l using aC with
 |nil=>exact .nil
 |cons p l=>exact Ka l p h
theorem Kb{l':List Str}(hp:l'.Perm l)(hs:sortedS l'=ao):l'=rK l:=
 rC (le:=leB) (λ_ _ _ _ h h'=>xF h h') (CJ hs) (xG l) (hp.trans (oZ l).symm)
theorem Mj(r:bM ρ xs ys):∀ss,AB xs=af ss->Ap ys ss:=
 r.by (P:=λxs ys=>∀ss,AB xs=af ss->Ap ys ss) (λss e=>by injection e with e;subst e;exact .nil) (λx xs y ys r _ ih ss e=>by
  refine eY e λa h1 e=>?_;refine lmap e λss' h2 q=>?_;subst q;obtain rfl:=nB h1;obtain ⟨t,rfl⟩:=r;exact .cons _ _ (ih _ h2))
theorem IZ{ss:List Str}(h:Ap ys ss):bM ρ (ss.map bc) ys:=by
 induction h with
 |nil=>trivial
 |cons y t _ ih=>exact ⟨⟨t,rfl⟩,ih⟩
theorem Kc:∀{ss:List Str},AB xs=af ss->xs.length=ss.length:=by
 induction xs with
 |nil=>intro ss e;injection e with e;subst e;rfl
 |cons x xs ih=>
  intro ss e;refine eY e λa h1 e=>?_;refine lmap e λss' h2 q=>?_;subst q;exact congrArg (· +1) (ih h2)
theorem E6{ys:Array ay}{ss:List Str}(ho:s.heap.get? a=af ⟨.type "tuple",ae,.seq ys n,#[]⟩)(hS:Ap ys.toList ss)(h64:ys.toList.length<64)
  (h:∀(h1:pO) (out:Array ay) (e:Nat),(∀b o,s.heap.get? b=af o->h1.get? b=af o)->Ap out.toList (rK ss)->
   (sortedHeap (h1.push (xa "list" ys 0)) h1.objs.size ys.toList out).get? h1.objs.size=af (xa "list" out e)->Q (.ref h1.objs.size) {s with heap:=sortedHeap (h1.push (xa "list" ys 0)) h1.objs.size ys.toList out}):
  wpAny (model B.pr B.w) A (call (.builtin "sorted") [.ref a]) Q E s:=by
 refine qo PyProof.Rows.kind_sorted PyProof.Rows.plain_sorted PyProof.Rows.entry_sorted (PyProof.Rows.args_sorted1 _) ?_;unfold Builtin.«sorted»;refine aB (m:=checkCount "sorted" 1 1 _) (bF ?_);refine aB (wpAny_collect_seq a (.inr rfl) ho rfl rfl (λh1 hk=>?_) (by show _<=2^24;simp at h64;exact qi (bS h64) rfl));refine aB (wpAny_newList ?_);have Zk:(h1.push (xa "list" ys.toList.toArray 0)).get? h1.objs.size=af (xa "list" ys.toList.toArray 0):=dh _ rfl;show wpAny _ _ _ _ _ {s with heap:=h1.push (xa "list" ys.toList.toArray 0)};refine aB (dZ (wpAny_call_entry PyProof.Rows.slot_list_sort ⟨_,Zk,rfl⟩ PyProof.Rows.entry_list_sort (list_sort_treeK strKind_oneLt Zk hS.keysOf (λv_1 v_2 rest e=>keyKind_strs (by rw [←e];exact hS)) h64 λst' a1 a2=>⟨_,rfl,?_⟩) (PyProof.Rows.args_list_sort _)));refine bF ⟨_,rfl,?_⟩;refine cO (sorted_out_str hS a1 a2) λss' Ik h2' h3'=>?_;obtain rfl:=Kb h2' h3';refine lG (sortedHeap_at (out:=(arrOf st').map (·.2)) Zk) λe he=>?_;exact h h1 _ e hk Ik he
theorem Kd{xs:List ay}(F:Fits B ρ σ fr up env fl s)(hT:c.aj=B.aj)(e:Dm c as up.fz ⟨fr,σ⟩=af (v,s₁))(hx:bM ρ as xs)
  (q:KV B env fl up ρ s s₁.fr s₁.os v Q):wpAny (model B.pr B.w) A (call (.builtin "sorted") xs) Q E s:=by
 refine wO e hx λa x q'5 qk e=>?_;subst q'5;refine objE e λob h1 e=>?_;refine bZ e λls w e=>?_;obtain rfl:=Ad w;refine nD e λss h2 e=>?_;refine xC e λhl e=>?_;refine b9 (F.mG hT h1 qk) λp ys n q'3 g1 g2 g3=>?_;subst q'3;refine bQ e λr s_2 h3 e=>?_;refine cW (eQ h3) λhz q'6 q'7=>?_;subst q'6;subst q'7;refine bZ e λi w2 e=>?_;injection w2 with w2;subst w2
 refine bQ e λu s_3 h4 e=>?_;refine iA (i5 h4) λh5 h6 h7 q'8=>?_;subst q'8;obtain ⟨rfl,rfl⟩:=aK e;have hlen:=g2.length;refine E6 g1 (Mj g2 _ h2) (by rw [←hlen,Kc h2];exact hl) λhp out e' hk hS hL=>?_;refine d7 (F.grown hk s.toks) λst1 F1=>?_;refine cW (F1.alloc (o:=.list ls) (r:=xa "list" ys 0) ⟨ys,0,rfl,g2,g3⟩ s.toks) λst2 F2 hv=>?_;have hi:(ρ++ [hp.objs.size])[σ.length]? =af hp.objs.size:=by
  rw [←F.rep.len];simp
 have hsz:out.size<=1000000:=by
  have:=(IZ (ρ:=ρ) hS).length;rw [aH,(oZ ss).length_eq] at this;rw [←cj,←this];exact bS (aD hl (ak rfl))
 refine d7 (F2.DA (s':={s with heap:=sortedHeap (hp.push (xa "list" ys 0)) hp.objs.size ys.toList out}) (o:=.list ((rK ss).map bc)) h7 hi (λb ob hb ho=>(sortedHeap_old hb (du ho)).trans ho) hL ⟨out,e',rfl,IZ hS,hsz⟩ rfl rfl rfl) λst3 F3=>?_;exact q _ _ _ ((st1.trans st2).trans st3) F3 hv
theorem VU{id:String}{xs:List ay}(F:Fits B ρ σ fr up env fl s)(H:ej c B)(e:Pj c id as up.fz ⟨fr,σ⟩=af (v,s₁))(hx:bM ρ as xs)
  (q:KV B env fl up ρ s s₁.fr s₁.os v Q):wpAny (model B.pr B.w) A (call (.builtin id) xs) Q E s:=by
 refine EC e (λo4 e=>?_) λe=>?_
 ·subst o4;exact To F H.aj e hx q
 refine EC e (λo4 e=>?_) λe=>?_
 ·subst o4;exact Tp F e hx q
 refine EC e (λo4 e=>?_) λe=>?_
 ·subst o4;exact Tq F e hx q
 refine EC e (λo4 e=>?_) λe=>?_
 ·subst o4;exact Mi F H.aj e hx q
 refine xC e λo4 e=>?_;subst o4;exact Kd F H.aj e hx q
theorem Ke{xs:List ay}(F:Fits B ρ σ fr up env fl s)(e:Dp as up.fz ⟨fr,σ⟩=af (v,s₁))(hx:bM ρ as xs)
  (q:KV B env fl up ρ s s₁.fr s₁.os v Q):wpAny (model B.pr B.w) A (call (.type "range") xs) Q E s:=by
 refine eh e (λa w e=>?_) (λ_ e=>?_)
 ·rw [AJ w] at hx;refine aR hx.one λx q'1 qk=>?_;subst q'1;refine Du e qk λt u q'2 e=>?_;subst q'2;refine cW (eQ e) λhz q'22 q'23=>?_;subst q'22;subst q'23;exact call_range_1 (q.alloc F ⟨_,_,_,rfl⟩)
 ·refine bZ e λa w e=>?_;rw [Pq w] at hx;refine ck hx.cons_inv λx zs q'24 q'25 Ys=>?_;subst q'24;refine ck Ys.cons_inv λy zs q'26 q'27 hx3=>?_;subst q'26;refine aR hx3.one λz q'28 r'30=>?_;subst q'28;refine Du e q'25 λi t q'1 e=>?_;refine Du e q'27 λj u q'2 e=>?_;refine Du e r'30 λk w q'3 e=>?_;subst q'1;subst q'2;subst q'3;refine xC e λhz e=>?_;refine cW (eQ e) λhz' q'31 q'32=>?_;subst q'31;subst q'32;exact call_range_3 (Int.ne_of_gt hz.1) (q.alloc F ⟨_,_,_,rfl⟩) (.inl (tE (oG.mp (lB (oC (nI (tH hz.1))) (yk hz.2 (by decide))))))
theorem Kf{xs:List ay}(F:Fits B ρ σ fr up env fl s)(hT:c.aj=B.aj)(e:GW c as up.fz ⟨fr,σ⟩=af (v,s₁))(hx:bM ρ as xs)
  (q:KV B env fl up ρ s s₁.fr s₁.os v Q):wpAny (model B.pr B.w) A (call (.type "tuple") xs) Q E s:=by
 refine wO e hx λa x q'5 qk e=>?_;subst q'5;refine listE e F hT qk λys p zs n q'6 g1 g2 g3 e=>?_;subst q'6;refine cW (eQ e) λhz q'34 q'35=>?_;subst q'34;subst q'35;refine call_tuple_list ⟨_,g1,rfl,n,rfl⟩ (λh' hk=>?_) (by show _<=2^24;exact qi g3 rfl);obtain ⟨st,F'⟩:=F.grown hk s.toks;have q':KV B env fl up ρ {s with heap:=h',toks:=s.toks} fr (σ++ [_]) (.ref σ.length) Q:=λρ' s' x a b c=>q ρ' s' x (st.trans a) b c;exact q'.alloc F' ⟨zs,0,rfl,g2,g3⟩
theorem Mk{xs:List ay}(F:Fits B ρ σ fr up env fl s)(hT:c.aj=B.aj)(e:LR c as up.fz ⟨fr,σ⟩=af (v,s₁))(hx:bM ρ as xs)
  (q:KV B env fl up ρ s s₁.fr s₁.os v Q):wpAny (model B.pr B.w) A (call (.type "bool") xs) Q E s:=by
 refine wO e hx λa x q'5 qk e=>?_;subst q'5;refine listE e F hT qk λys p zs n q'6 g1 g2 g3 e=>?_;subst q'6;obtain ⟨rfl,rfl⟩:=aK e;refine call_bool_1 (zW p zs) ⟨⟨_,g1,rfl,n,rfl⟩,SK g3 (by decide),?_⟩;refine ⟨rfl,?_⟩;refine g2.empty▸ ?_;exact q.toks F rfl
theorem Py{xs:List ay}(F:Fits B ρ σ fr up env fl s)(e:RL as up.fz ⟨fr,σ⟩=af (v,s₁))(hx:bM ρ as xs)
  (q:KV B env fl up ρ s s₁.fr s₁.os v Q):wpAny (model B.pr B.w) A (call (.type "set") xs) Q E s:=by
 refine Mh e hx λq'5 e=>?_;subst q'5;refine cW (eQ e) λhz q'39 q'40=>?_;subst q'39;subst q'40;refine call_set_0 λled=>q.alloc F ⟨#[],0,_,⟨rfl,rfl,rfl⟩,rfl,?_,?_,by decide,?_,rfl⟩
 ·intro e he;obtain ⟨⟩:=he
 ·intro k;exact iK rfl
 ·rfl
theorem Pz{n:String}{xs:List ay}(F:Fits B ρ σ fr up env fl s)(H:ej c B)(e:AD c n as up.fz ⟨fr,σ⟩=af (v,s₁))(hx:bM ρ as xs)
  (q:KV B env fl up ρ s s₁.fr s₁.os v Q):wpAny (model B.pr B.w) A (call (.type n) xs) Q E s:=by
 refine EC e (λo4 e=>?_) λe=>?_
 ·subst o4;exact Ke F e hx q
 refine EC e (λo4 e=>?_) λe=>?_
 ·subst o4;exact Kf F H.aj e hx q
 refine EC e (λo4 e=>?_) λe=>?_
 ·subst o4;exact Mk F H.aj e hx q
 refine xC e λo4 e=>?_;subst o4;exact Py F e hx q
end
section
variable{k:Lv}
noncomputable def MeR(x:ay):Me->ay × List ay
 | .fn f=>(.ref f,[x])
 | .bi id=>(.builtin id,[x])
theorem Kg{n:Str}{id:String}{l:bk}{ys:Array ay}{m:Nat}{pl:Sem Bool}{Q:ay × List ay->aM->Prop}(h:sU n=af id)(ho:s.heap.get? l=af ⟨.type "list",ae,.seq ys m,#[]⟩)
  (q:Q (.builtin id,[.ref l]) s):wpAny (model B.pr B.w) A (mR (.ref l) n pl) Q E s:=by
 have hd:∀a,cC l= .ref a->∃o,s.heap.get? a=af o/\o.dict=ae:=λa e=>by (injection e with e;subst e);exact ⟨_,ho,rfl⟩
 unfold sU at h
 repeat' split at h
 all_goals first|(cases h;done)|(rename_i hn;(injection h with h;subst h);subst hn;skip)
 ·exact fJ ⟨_,ho,rfl⟩ fx rD PySem.F.type_list_append hd q
 ·exact fJ ⟨_,ho,rfl⟩ fx kW PySem.F.type_list_extend hd q
 ·exact fJ ⟨_,ho,rfl⟩ fx si PySem.F.type_list_clear hd q
 ·exact fJ ⟨_,ho,rfl⟩ fx PySem.F.slot_list_pop PySem.F.type_list_pop hd q
 ·exact fJ ⟨_,ho,rfl⟩ fx sk PySem.F.type_list_index hd q
 ·exact fJ ⟨_,ho,rfl⟩ fx so PySem.F.type_list_count hd q
theorem CK{n:Str}{id:String}{d:bk}{o:Obj}{pl:Sem Bool}{Q:ay × List ay->aM->Prop}(h:wI n=af id)(ho:s.heap.get? d=af o)(he:o.ExactDict)
  (q:Q (.builtin id,[.ref d]) s):wpAny (model B.pr B.w) A (mR (.ref d) n pl) Q E s:=by
 have hd:∀a,cC d= .ref a->∃o,s.heap.get? a=af o/\o.dict=ae:=λa e=>by (injection e with e;subst e);exact ⟨_,ho,he.2.1⟩
 unfold wI at h
 repeat' split at h
 all_goals first|(cases h;done)|(rename_i hn;(injection h with h;subst h);subst hn;skip)
 ·exact fJ ⟨_,ho,he.1⟩ sq mB PySem.F.type_dict_get hd q
 ·exact fJ ⟨_,ho,he.1⟩ sq rE PySem.F.type_dict_values hd q
theorem Ml{n:Str}{id:String}{t:Tok}{pl:Sem Bool}{Q:ay × List ay->aM->Prop}(h:AA n=af id)
  (q:Q (.builtin id,[.str x t]) s):wpAny (model B.pr B.w) A (mR (.str x t) n pl) Q E s:=by
 have hd:∀a,kr x t= .ref a->∃o,s.heap.get? a=af o/\o.dict=ae:=λa e=>by injection e
 unfold AA at h
 repeat' split at h
 all_goals first|(cases h;done)|(rename_i hn;cases h;subst hn;skip)
 ·exact GM.lower q
 ·exact GM.join q
 ·exact GM.index q
theorem sZ{o:Option String}{t t':eP}{m:Me}(e:LU o z t=af (m,t'))(k:∀id,o=af id->m= .bi id->t'=t->C):C:=nD e λid h e=>by
 obtain ⟨h1,h2⟩:=aK e;exact k id h h1 h2
theorem AS{C:bk}{t':eP}{m:Me}{G:Prop}(H:ej c B)(e:RM c name C d up.fz ⟨fr,σ⟩=af (m,t'))(k:∀es f,eu c (.ref d) up.fz ⟨fr,σ⟩=af (.ns es,⟨fr,σ⟩)->j9 B.K (.ref C) name=af (af (.ref f))->wJ B.K C es name f=ao->m= .fn f->t'=⟨fr,σ⟩->G):G:=
 objE e λod h2 e1=>bZ e1 λes w e2=>nD e2 λf h3 e3=>eY h3 λf' h4 h5=>Lu h5 λh6 h7=>by
  obtain rfl:=LZ w;obtain ⟨h8,h9⟩:=aK e3;obtain ⟨⟩:=h7;rw [H.K] at h4 h6;exact k es f h2 (IU h4) h6 h8 h9
theorem Mm{x:ay}{C f:bk}{pl:Sem Bool}{Q:ay × List ay->aM->Prop}(F:Fits B ρ σ fr up env fl s)(H:ej c B)(h1:eu c o up.fz ⟨fr,σ⟩=af (.inst C d,⟨fr,σ⟩))
  (h2:eu c (.ref d) up.fz ⟨fr,σ⟩=af (.ns es,⟨fr,σ⟩)) (hf:j9 B.K (.ref C) name=af (af (.ref f))) (hz:wJ B.K C es name f=ao) (hx:cB ρ o x) (q:Q (.ref f,[x]) s):wpAny (model B.pr B.w) A (mR x name pl) Q E s:=by
 simp only [wJ,aS,beq_iff_eq] at hz;refine iA hz λhz1 hz2 GG _=>?_;refine cW (mI hz1) λk1 k2 _=>?_;refine gM (F.Dv H.aj h1 hx h2) λp pa ho ds r'3=>?_;refine vC r'3 λn q'2 g1 g2 g3 g4 r'4=>?_;refine cW r'4 λJH g5 I=>?_;subst q'2;refine method_fn F.isIn I k1 k2 hf hz2 ?_ q;show (lookIn name ho).map _=_;refine (yM g3 g4)▸ ?_;have:=(g5 name).uH;rw [hY.mp GG] at this;rw [cU,←this];rfl
theorem Mn{id:String}{x:ay}{ob:O}{pl:Sem Bool}{Q:ay × List ay->aM->Prop}(F:Fits B ρ σ fr up env fl s)(hT:c.aj=B.aj)(h1:eu c o up.fz ⟨fr,σ⟩=af (ob,⟨fr,σ⟩))(j2:idOf ob name=af id)(hx:cB ρ o x)
  (q:Q (.builtin id,[x]) s):wpAny (model B.pr B.w) A (mR x name pl) Q E s:=by
 induction ob using O.casesOn with
 |list xs=>
  refine b9 (F.jC hT h1 hx) λp ys n q'5 g1 g2 g3=>?_;subst q'5;exact Kg j2 g1 q
 |dict xs=>
  refine ey (F.dictAt hT h1 hx) λp kvs q'6 g0 q'7 _=>?_;subst q'6;exact jo q'7 λo es ep g1 g2 g3=>CK j2 g1 g2 q
 |qt xs=>
  refine ey (F.IW hT h1 hx) λp kvs q'9 g0 q'10 _=>?_;subst q'9;exact jo q'10 λo es ep g1 g2 g3=>CK j2 g1 g2 q
 |set xs=>
  refine aR (F.Hd hT h1 hx) λp q'8 g=>?_;subst q'8;refine Lu j2 λhn j2=>?_;(injection j2 with j2;subst j2);subst hn;exact getMethod_set_add g q
 |_=>exact nn j2
theorem xH{x:ay}{m:Me}{pl:Sem Bool}{Q:ay × List ay->aM->Prop}(F:Fits B ρ σ fr up env fl s)(H:ej c B)(e:ez c o name up.fz ⟨fr,σ⟩=af (m,s₁))(hx:cB ρ o x)
  (q:Q (MeR x m) s):s₁=⟨fr,σ⟩/\wpAny (model B.pr B.w) A (mR x name pl) Q E s:=by
 refine eh e (λy w e1=>?_) (λ_ e1=>?_)
 ·obtain rfl:=nB w;refine sZ e1 λid h1 h2 h3=>⟨h3,?_⟩;subst h2;exact lG hx λt ht=>by subst ht;exact Ml h1 q
 ·refine objE e1 λob h1 e2=>?_;refine eh e2 (λy w e3=>?_) (λ_ e3=>?_)
  ·obtain rfl:=Ds w;refine AS H e3 λes f h2 h3 h4 h5 h6=>⟨h6,?_⟩;subst h5;exact Mm F H h1 h2 h3 h4 hx q
  ·refine sZ e3 λid h2 h3 h4=>⟨h4,?_⟩;subst h3;exact Mn F H.aj h1 h2 hx q
end
section
variable{k:Lv}
theorem Fits.Ag{ys:Array ay}{zs:List V}(f:Array ay->Array ay)(F:Fits B ρ σ fr up env fl s)(hf':i∉up.fz)(hi:ρ[i]? =af a)
  (ho:s.heap.get? a=af ⟨.type "list",ae,.seq ys n,#[]⟩) (hk:bM ρ zs (f ys).toList) (hz:(f ys).size<=1000000) (tk:Nat):
  Step ρ (wr up env) s ρ {s with heap:=s.heap.update a (Obj.mapSeq f),toks:=tk}/\Fits B ρ (σ.set i (.list zs)) fr up env fl {s with heap:=s.heap.update a (Obj.mapSeq f),toks:=tk}:=by
 have hl:IsL s.heap a ys n:=ho;exact F.setAt (o:=.list zs) hf' hi (kK ..) (hl.update f) ⟨f ys,_,rfl,hk,hz⟩ tk
open Classical in
theorem Hp(r:bM ρ xs ys)(h:xs.all isStr=ao):ys.countP (JZ x)=xs.countP λy=>y= .str x:=
 r.by (P:=λxs ys=>xs.all isStr=ao->ys.countP (JZ x)=xs.countP λy=>y= .str x) (λ_=>rfl) (λv xs y ys r rs ih h=>by
  rw [iD,aS] at h;refine gk (km h.1 r) λz t q'1 q'2=>?_;obtain rfl:=q'1;obtain rfl:=q'2;rw [sr,sr,ih h.2,Af]) h
theorem AU{x:V}:∀{xs:List V}{k j:Nat},posOf x xs k=af j->∃i,j=k+i/\xs[i]? =af x/\∀m,m<i->xs[m]? ≠af x
 | [],k,j,h=>by exact nn h
 |y::xs,k,j,h=>by
  dsimp only [posOf] at h;by_cases hy:y=x
  ·rw [if_pos hy] at h;(injection h with h;subst h);exact ⟨0,rfl,by simp [hy],λm hm=>by exact (gI _ hm).elim⟩
  ·rw [if_neg hy] at h;refine cO (AU h) λi h1 h2 h3=>?_;refine ⟨i+1,h1.trans (aN _ _ _),by simpa using h2,λm hm=>?_⟩;induction m using nM with
   |zero=>simpa using hy
   |succ m=>simpa using h3 m (by exact dF hm)
theorem bM.DB{y:ay}(h:bM ρ xs ys)(e:ys[i]? =af y):∃x,xs[i]? =af x/\cB ρ x y:=by
 induction q:xs[i]? using aw with
 |none=>rw [h.none q] at e;exact nn e
 |some x=>
  refine aR (h.get q) λz h1 h2=>?_;rw [e] at h1;(injection h1 with h1;subst h1);exact ⟨x,rfl,h2⟩
theorem bM.push{ys:Array ay}{y:ay}(h:bM ρ xs ys.toList)(hv:cB ρ v y):bM ρ (xs++ [v]) (ys.push y).toList:=by
 rw [Array.toList_push];exact h.append ⟨hv,trivial⟩
theorem bM.PA{ys:Array ay}(h:bM ρ xs ys.toList):bM ρ xs.dropLast (ys.eraseIdxIfInBounds (ys.size-1)).toList:=by
 have e:(ys.eraseIdxIfInBounds (ys.size-1)).toList=ys.toList.take (ys.size-1):=by
  refine Array.eraseIdxIfInBounds_eq▸ ?_;split
  ·rw [Array.toList_eraseIdx,List.eraseIdx_eq_take_drop_succ,fI (by simp;exact Nat.sub_le_iff_le_add.mp (ax _)),bB]
  ·rename_i hz
   have:ys.size=0:=Nat.eq_zero_of_not_pos λq=>hz (Nat.sub_lt q zU);have:ys= #[]:=by simpa using this
   subst this;rfl
 rw [e,List.dropLast_eq_take,h.length.trans cj];exact h.take _
theorem Kh{xs:List Str}{v:Str}{S:Str->Bool}(hS:∀k,S k=decide (k∈xs)):(λk'=>S k'||decide (k'=v))=λk'=>decide (k'∈(if v∈xs then xs else xs++ [v])):=by
 funext k'
 rw [hS];by_cases hv:v∈xs
 ·refine (if_pos hv)▸ ?_;by_cases hk:k'=v
  ·subst hk;simp [hv]
  ·simp [hk]
 ·refine (if_neg hv)▸ ?_;simp [aG]
theorem listI{f:List V->Nat->M α}{r:α × eP}{x:ay}(e:(eu c o>>=λob=>ff ob.jX λxs=>ff o.nu (f xs)) up.fz ⟨fr,σ⟩=af r)(F:Fits B ρ σ fr up env fl s)(hT:c.aj=B.aj)(hx:cB ρ o x)
  (k:∀xs p ys n i,x= .ref p->s.heap.get? p=af ⟨.type "list",ae,.seq ys n,#[]⟩->bM ρ xs ys.toList->ys.size<=1000000->ρ[i]? =af p->f xs i up.fz ⟨fr,σ⟩=af r->C):C:=
 listE e F hT hx λxs p ys n h1 h2 h3 h4 e=>bZ e λi w e=>by
  obtain rfl:=qw w;exact k xs p ys n i h1 h2 h3 h4 (qW hx h1) e
theorem yN{ob:O}{s_0:eP}{v v':α}(e:(gZ i ob>>=λ_=>(aA v':M α)) z s_0=af (v,s₁))(k:sizeOk ob=ao->i∉z->v=v'->s₁=⟨s_0.fr,s_0.os.set i ob⟩->C):C:=
 bQ e λu s_2 h2 e=>iA (i5 h2) λ_ h4 h5 h6=>by
  subst h6;obtain ⟨h7,h8⟩:=aK e;exact k h4 h5 h7 h8
theorem CL{x:ay}{xs:List ay}(F:Fits B ρ σ fr up env fl s)(hT:c.aj=B.aj)(e:z8 c o as up.fz ⟨fr,σ⟩=af (v,s₁))(hx:cB ρ o x)(hxs:bM ρ as xs)
  (q:KV B env fl up ρ s s₁.fr s₁.os v Q):wpAny (model B.pr B.w) A (call (.builtin "list.append") (x::xs)) Q E s:=by
 refine listI e F hT hx λls p ys n i qI g1 g2 g3 hi e=>?_;refine wO e hxs λa y q'4 hy e=>?_;refine yN e λh4 Eu hv hs=>?_;subst qI;subst q'4;subst hv;subst hs;have hl:=g2.length.trans cj;have hz:=iK (show decide _=ao from h4);have hk:=g2.push hy;refine d7 (F.Ag (λzs=>zs.push y) Eu hi g1 hk (by rw [Array.size_push];simp at hz;exact aW (ai (ar hl.symm) hz) (ak rfl)) s.toks) λa1 a2=>?_;exact mS rD ⟨_,g1,rfl⟩ PySem.F.entry_list_append (PySem.F.args_list_append_2 _ _) (list_append p ys n y (ai g3 (by decide))) ⟨g1,q _ _ _ a1 a2 rfl⟩
theorem Mo{x:ay}{xs:List ay}(F:Fits B ρ σ fr up env fl s)(hT:c.aj=B.aj)(e:GS c o as up.fz ⟨fr,σ⟩=af (v,s₁))(hx:cB ρ o x)(hxs:bM ρ as xs)
  (q:KV B env fl up ρ s s₁.fr s₁.os v Q):wpAny (model B.pr B.w) A (call (.builtin "list.clear") (x::xs)) Q E s:=by
 refine listI e F hT hx λls p ys n i qI g1 g2 g3 hi e=>?_;refine Mh e hxs λq'4 e=>?_;refine yN e λh4 Eu hv hs=>?_;subst qI;subst q'4;subst hv;subst hs;refine d7 (F.Ag (zs:=[]) (λzs=> #[]) Eu hi g1 trivial (by exact iK rfl) s.toks) λa1 a2=>?_;exact mS si ⟨_,g1,rfl⟩ PySem.F.entry_list_clear (PySem.F.args_list_clear_1 _) (AutoSeq1.list_clear_list_0 p ys n (ai g3 (by decide))) ⟨g1,q _ _ _ a1 a2 rfl⟩
theorem Tr{x:ay}{xs:List ay}(F:Fits B ρ σ fr up env fl s)(hT:c.aj=B.aj)(e:SP c o as up.fz ⟨fr,σ⟩=af (v,s₁))(hx:cB ρ o x)(hxs:bM ρ as xs)
  (q:KV B env fl up ρ s s₁.fr s₁.os v Q):wpAny (model B.pr B.w) A (call (.builtin "list.pop") (x::xs)) Q E s:=by
 refine listI e F hT hx λls p ys n i qI g1 g2 g3 hi e=>?_;refine Mh e hxs λq'4 e=>?_;refine nD e λw j5 e=>?_;refine yN e λh4 Eu hv hs=>?_;subst qI;subst q'4;subst hv;subst hs;have hl:=g2.length.trans cj;rw [List.getLast?_eq_getElem?] at j5;refine aR (g2.get j5) λy hy ry=>?_;have hk:=g2.PA;refine d7 (F.Ag (λxs=>xs.eraseIdxIfInBounds (ys.size-1)) Eu hi g1 hk (ai (MeetsSeq.size_erased ..) g3) s.toks) λa1 a2=>?_;rw [hl,cV] at hy;exact mS PySem.F.slot_list_pop ⟨_,g1,rfl⟩ PySem.F.entry_list_pop (PySem.F.args_list_pop_1 _) (MeetsSeq.list_pop_last p ys n y hy (ai g3 (by decide))) ⟨g1,q _ _ _ a1 a2 ry⟩
open Classical in
theorem Mp{x:ay}{xs:List ay}(F:Fits B ρ σ fr up env fl s)(hT:c.aj=B.aj)(e:GU c o as up.fz ⟨fr,σ⟩=af (v,s₁))(hx:cB ρ o x)(hxs:bM ρ as xs)
  (q:KV B env fl up ρ s s₁.fr s₁.os v Q):wpAny (model B.pr B.w) A (call (.builtin "list.index") (x::xs)) Q E s:=by
 refine listE e F hT hx λls p ys n qI g1 g2 g3 e=>?_;refine wO e hxs λa y q'9 hy e=>?_;refine xC e λhz e=>?_;rw [aS] at hz;obtain ⟨h2,rfl⟩:=jB e;refine lmap h2 λj h3 q'7=>?_;subst qI;subst q'7;subst q'9;refine gk (km hz.1 hy) λz t q'10 q'11=>?_;subst q'10;subst q'11;refine cO (AU h3) λi q'12 k1 k2=>?_;obtain rfl:=q'12;refine aR (g2.get k1) λw hw So=>?_;rw [cV] at hw;obtain ⟨hlt,hw'⟩:=dM.mp hw;refine gk (km rfl So) λz' t' e1 q'13=>?_;obtain rfl:=q'13;(injection e1 with e1;subst e1);rw [fH] at q;refine mS sk ⟨_,g1,rfl⟩ PySem.F.entry_list_index (PySem.F.args_list_index_2 _ _) (MeetsSeq.list_index p ys n (.str z t) (JZ z) (qx g2 hz.2) i hlt (SK (bS (ag hlt g3)) (by decide)) ?_ ?_) ⟨g1,q.toks F ⟨_,rfl⟩⟩
 ·rw [hw',Af];simp
 ·intro m hm hmi;refine aR (g2.DB (i:=m) (y:=ys[m]) (by refine (cV).trans ?_;exact Array.getElem?_eq_getElem hm)) λv' hv' rv'=>?_;have hs:isStr v'=ao:=bK.mp hz.2 v' (bN hv');refine gk (km hs rv') λz'' t'' q'14 e2=>?_;obtain rfl:=q'14;rw [e2,Af,decide_eq_false];intro e3;exact k2 m hmi (by rw [hv',e3])
theorem Mq{x:ay}{xs:List ay}(F:Fits B ρ σ fr up env fl s)(hT:c.aj=B.aj)(e:LM c o as up.fz ⟨fr,σ⟩=af (v,s₁))(hx:cB ρ o x)(hxs:bM ρ as xs)
  (q:KV B env fl up ρ s s₁.fr s₁.os v Q):wpAny (model B.pr B.w) A (call (.builtin "list.count") (x::xs)) Q E s:=by
 refine listE e F hT hx λls p ys n qI g1 g2 g3 e=>?_;refine wO e hxs λa y q'9 hy e=>?_;refine xC e λhz e=>?_;rw [aS] at hz;obtain ⟨rfl,rfl⟩:=aK e;subst qI;subst q'9;refine gk (km hz.1 hy) λz t q'10 q'11=>?_;subst q'10;subst q'11;refine mS so ⟨_,g1,rfl⟩ PySem.F.entry_list_count (PySem.F.args_list_count_2 _ _) (MeetsSeq.list_count p ys n (.str z t) (JZ z) (qx g2 hz.2)) ⟨g1,?_⟩;show Q (.int (ys.toList.countP (JZ z):Nat) _) _;refine (Hp g2 hz.2)▸ ?_;exact q.toks F ⟨_,rfl⟩
end
theorem zG(l:List Str):lV ⟨#[]⟩ l=l.foldl (λa b=>a++b) ⟨#[]⟩:=by
 have go:∀(l:List Str) (acc:Array Nat),(⟨l.foldl (λacc p=>acc++(⟨#[]⟩:Str).cps++p.cps) acc⟩:Str)=l.foldl (λa b=>a++b) ⟨acc⟩:=by
  intro l;induction l with
  |nil=>intro acc;rfl
  |cons p r ih=>
   intro acc;rw [fO,fO,ih];show pT _ (⟨acc++ #[]++p.cps⟩:Str) r=pT _ (⟨acc++p.cps⟩:Str) r;rw [pU]
 unfold lV;induction l using aC with
 |nil=>rfl
 |cons p r=>
  simp only [vX,pQ,List.headD_cons];rw [go,fO];congr 1;show p=(⟨#[]++p.cps⟩:Str);exact (pV)▸rfl
theorem yO(a b c:Str):a++b++c=a++(b++c):=by
 show (⟨a.cps++b.cps++c.cps⟩:Str)=⟨a.cps++(b.cps++c.cps)⟩;exact congrArg _ (xb)
theorem rO(a:Str):(⟨#[]⟩:Str)++a=a:=by
 show (⟨#[]++a.cps⟩:Str)=a;exact congrArg _ (pV)
theorem Hq{t:Str}(h:zA xs=af t):∃l:List Str,xs=l.map .str/\∀a:Str,l.foldl (λa b=>a++b) a=a++t:=by
 induction xs generalizing t with
 |nil=>(injection h with h;subst h);exact ⟨[],rfl,λa=>by show a=(⟨a.cps++ #[]⟩:Str);exact (pU)▸rfl⟩
 |cons x r ih=>
  induction x using V.casesOn with
  |str s=>
   refine aR (bY.mp (show iF _ (zA r)=af t from h)) λu h1 q'1=>?_;obtain rfl:=q'1;refine aR (ih h1) λl q'2 h2=>?_;obtain rfl:=q'2;exact ⟨s::l,rfl,λa=>by rw [fO,h2,yO]⟩
  |_=>exact nn h
section
variable{k:Lv}
theorem Mr(h:bM ρ (l.map bc) ys):∃ts:List (Str × Tok),ys=strValues ts/\ts.map (·.1)=l:=by
 induction l generalizing ys with
 |nil=>induction ys using aC with
  |nil=>exact ⟨[],rfl,rfl⟩
  |cons _ _=>exact h.elim
 |cons x l ih=>induction ys using aC with
  |nil=>exact h.elim
  |cons y ys=>
   refine el h.1 λt q=>aR (ih h.2) λts q' e=>?_;subst q;subst q';exact ⟨(x,t)::ts,rfl,congrArg (x:: ·) e⟩
theorem E7{w:Option V}{y:Option ay}(h:n8 ρ w y):cB ρ (w.getD .none) (y.getD .none):=by
 induction w using aw with
 |none=>subst h;rfl
 |some w=>exact aR h λz e r=>e▸r
theorem PB{x:ay}{xs:List ay}(F:Fits B ρ σ fr up env fl s)(hT:c.aj=B.aj)(e:LN c o as up.fz ⟨fr,σ⟩=af (v,s₁))(hx:cB ρ o x)(hxs:bM ρ as xs)
  (q:KV B env fl up ρ s s₁.fr s₁.os v Q):wpAny (model B.pr B.w) A (call (.builtin "dict.get") (x::xs)) Q E s:=by
 refine objE e λob h1 e=>?_;refine wO e hxs λa y q'4 hy e=>?_;subst q'4;refine eh e (λes w e1=>?_) (λ_ e1=>?_)
 ·obtain rfl:=qV w;refine Hb e1 hy λi t q'7 e2=>?_;subst q'7;obtain ⟨rfl,rfl⟩:=aK e2;refine dD (F.dictAt hT h1 hx) λp kvs q'5 g0 g g2 _=>?_;subst q'5;exact oF mB g.typeIs tI (sy _ _) (meets_dict_get (strKind B.pr B.w) _ AN g0) ⟨_,g.mapOf,q.toks F (E7 g2.find)⟩
 ·refine bZ e1 λes w e2=>?_;obtain rfl:=Po w;refine Du e2 hy λi t q'7 e3=>?_;subst q'7;obtain ⟨rfl,rfl⟩:=aK e3;refine ey (F.IW hT h1 hx) λp kvs q'9 g0 g g2=>?_;subst q'9;exact oF mB g.typeIs tI (sy _ _) (meets_dict_get (iO B.pr B.w) _ RU g0) ⟨_,g.mapOf,q.toks F (E7 g2.find)⟩
theorem Ki{x:ay}{xs:List ay}(F:Fits B ρ σ fr up env fl s)(hT:c.aj=B.aj)(e:Dk c o as up.fz ⟨fr,σ⟩=af (v,s₁))(hx:cB ρ o x)(hxs:bM ρ as xs)
  (q:KV B env fl up ρ s s₁.fr s₁.os v Q):wpAny (model B.pr B.w) A (call (.builtin "dict.values") (x::xs)) Q E s:=by
 refine objE e λob h1 e=>?_;refine bZ e λes w e1=>?_;obtain rfl:=qV w;refine bZ e1 λi w e2=>?_;obtain rfl:=qw w;refine Mh e2 hxs λq'4 e3=>?_;subst q'4;refine cW (eQ e3) λhz q'13 q'14=>?_;subst q'13;subst q'14;refine dD (F.dictAt hT h1 hx) λp kvs qI g0 g g2 _=>?_;have hi:=qW hx qI;subst qI;exact oF rE g.typeIs PySem.F.entry_dict_values (PySem.F.args_dict_values_1 _) (meets_dict_values (strKind B.pr B.w) p g0) ⟨⟨kvs,g⟩,q.alloc F ⟨p,hi,rfl⟩⟩
theorem PC{x:ay}{xs:List ay}(F:Fits B ρ σ fr up env fl s)(hT:c.aj=B.aj)(e:LO c o as up.fz ⟨fr,σ⟩=af (v,s₁))(hx:cB ρ o x)(hxs:bM ρ as xs)
  (q:KV B env fl up ρ s s₁.fr s₁.os v Q):wpAny (model B.pr B.w) A (call (.builtin "set.add") (x::xs)) Q E s:=by
 refine objE e λob h1 e=>?_;refine bZ e λes w e1=>?_;obtain rfl:=RP w;refine bZ e1 λi w e2=>?_;obtain rfl:=qw w;refine wO e2 hxs λa y q'4 hy e3=>?_;subst q'4;refine Hb e3 hy λ_ t q'7 e4=>?_;subst q'7;refine yN e4 λh4 Eu hv hs=>?_;subst hv;subst hs;refine aR (F.Hd hT h1 hx) λp qI g=>?_;have hi:=qW hx qI;subst qI;have hz:=iK (show decide _=ao from h4);refine call_set_add AN rfl g ?_ λh' k1 k2=>?_
 ·show _<4096;split at hz
  ·exact aD (Nat.add_lt_add_right hz _) (ak rfl)
  ·simp at hz;exact Nat.lt_add_left _ hz
 ·rw [Kh λ_=>rfl] at k2;refine kh k2 λo es n t' m1 m2 m3 m4 m5 r'19=>?_;refine cW r'19 λm6 m7 m8=>?_;obtain ⟨a1,a2⟩:=F.setAt (o:=.set (if _∈_ then _ else _++ [_])) Eu hi k1 m1 ⟨es,n,t',m2,m3,m4,m5,m6,m7,by
   refine (m8).trans ?_;split
   ·rename_i hm;exact (if_pos (iK hm))▸rfl
   ·rename_i hm;refine (if_neg (λh=>hm (decide_eq_true h)))▸ ?_;simp⟩ (s.toks+1)
  exact q _ _ _ a1 a2 rfl
theorem Ms{x:ay}{xs:List ay}(F:Fits B ρ σ fr up env fl s)(e:GV o as up.fz ⟨fr,σ⟩=af (v,s₁))(hx:cB ρ o x)(hxs:bM ρ as xs)
  (q:KV B env fl up ρ s s₁.fr s₁.os v Q):wpAny (model B.pr B.w) A (call (.builtin "str.lower") (x::xs)) Q E s:=by
 refine Hb e hx λ_ t q'7 e=>?_;subst q'7;refine Mh e hxs λq'4 e=>?_;subst q'4;refine xC e λhz e=>?_;obtain ⟨rfl,rfl⟩:=aK e;exact SCL.lower (by show BO _<=_;exact bR hz) λ_=>q.toks F ⟨_,rfl⟩
theorem Kj{x:ay}{xs:List ay}(F:Fits B ρ σ fr up env fl s)(e:Dl o as up.fz ⟨fr,σ⟩=af (v,s₁))(hx:cB ρ o x)(hxs:bM ρ as xs)
  (q:KV B env fl up ρ s s₁.fr s₁.os v Q):wpAny (model B.pr B.w) A (call (.builtin "str.index") (x::xs)) Q E s:=by
 refine Hb e hx λy t q'7 e=>?_;subst q'7;refine wO e hxs λa y' q'4 hy e=>?_;subst q'4;refine Hb e hy λz u q'8 e=>?_;subst q'8;obtain ⟨j2,rfl⟩:=jB e;refine lmap j2 λk h1 h2=>?_;subst h2;induction ho:fw y z 0 y.length 1 using aC with
 |nil=>rw [ho] at h1;exact kY h1
 |cons i rest=>
  rw [ho] at h1;injection h1 with h1;subst h1
  exact SC.index ho (q.toks F ⟨_,rfl⟩)
end
theorem xI(x:Str)(i:Nat):(iR x)[i]? =(x.cps[i]?).map λc=>bc ⟨#[c]⟩:=by
 unfold iR;rw [ei,cV]
theorem nR(x:Str):(iR x).length=x.cps.size:=by unfold iR;exact aH _
theorem DC{I:bk}{fp wr:List bk}{G:Array nK->Array nK->Prop}{P:Nat->ay->Prop}{St:Nat->aM->Prop}(W:WalksS prog w A I fp wr G n P St)(k:Nat)(P':Nat->ay->Prop)(hP:∀i v,P i v->P' (k+i) v):
  WalksS prog w A I fp wr G (k+n) P' (λi s=>∃j,i=k+j/\St j s) where
 sub:=W.sub
 grefl:=W.grefl
 gtrans:=W.gtrans
 frame:=λi s h' tk ⟨j,hj,st⟩ h1 h2=>⟨j,hj,W.frame j s h' tk st h1 h2⟩
 item:=λi s Q E hi ⟨j,hj,st⟩ hQ=>W.item j s Q E (Nat.lt_of_add_lt_add_left (hj▸hi)) st λv s' hp st' hm=>hQ v s' (hj▸hP j v hp) ⟨j+1,by exact congrArg (· +1) hj,st'⟩ hm
 done:=λs Q E ⟨j,hj,st⟩ hQ=>W.done s Q E (by rw [show n=j from Nat.add_left_cancel hj];exact st) hQ
 self:=λi s Q E ⟨j,hj,st⟩ hQ=>W.self j s Q E st hQ
theorem Hr(hh:A.handled=ae)(x:Str)(t:Tok)(l:bk)(ys:Array ay)(n:Nat)(hl:s.heap.get? l=af ⟨.type "list",ae,.seq ys n,#[]⟩)(hz:ys.size+x.cps.size<=1000000)
  (hQ:∀s' acc c',(∀b o,b≠l->s.heap.get? b=af o->s'.heap.get? b=af o)->s'.gens=s.gens->s'.drawn=s.drawn->s'.os=s.os->s'.heap.get? l=af ⟨.type "list",ae,.seq acc c',#[]⟩->
   acc.size=ys.size+x.cps.size->(∀j v,acc[j]? =af v->(j<ys.size->ys[j]? =af v)/\(ys.size<=j->SignAt x (j-ys.size) v))->Q .none s'):
  wpAny (model prog w) A (call (.builtin "list.extend") [.ref l,.str x t]) Q E s:=by
 refine oF (S:=λA' R s'=>A'.handled=ae/\s'=s/\∀s'',Q .none s''->R (.ok (.ret .none)) s'') kW ⟨_,hl,rfl⟩ qp (pW _ _) ?_ ⟨hh,rfl,λs'' h=>h⟩;intro A R s_0 ⟨hh,e,hR⟩;subst e;show wpAny _ A.in1 (oH (.ref l) (.str x t) .none) _ _ _;unfold oH;refine aB (wpAny_typeOf (T:= "str") (v:=.str x t) rfl ?_);have h1:Builtin.List.listSameRef (.ref l) (.str x t)=bf:=rfl;have h2:(gG "str" ==gG "list")=bf:=by decide
 have h3:(gG "str" ==gG "tuple")=bf:=by decide
 simp only [h1,h2,h3,Cu,cR,if_false];refine aB (wpAny_pyIter_str λo St W hst=>?_);refine aB (dZ ?_);unfold Builtin.List.listLengthHint;refine aB (nZ (T:= "str") (v:=.str x t) rfl F.str_len ?_)
 wp_delta
 refine aB (wpAny_isInstance (T:= "str") (v:=.str x t) (b:=true) rfl (by rw [iY];kernel_rfl) ?_);show wpAny _ A.in1 (typeOf (kr x t)>>=_) _ _ _;refine aB (wpAny_typeOf (T:= "str") (v:=.str x t) rfl ?_);refine bF ?_;rw [if_neg (by decide)];have hlt:=du hl;have hSf:l∉ [s_0.heap.objs.size]:=λhm=>by rw [aL.mp hm] at hlt;exact absurd hlt (aX _)
 have hS:(s_0.heap.push o).get? l=af ⟨.type "list",ae,.seq ys n,#[]⟩:=aP _ hl;have W':=DC (W A.in1 hh).toS ys.size (λj v=>(j<ys.size->ys[j]? =af v)/\(ys.size<=j->SignAt x (j-ys.size) v)) (λi v h=>⟨λh'=>absurd h' (cD.mpr (aF _ _)),λ_=>by rw [dO];exact h⟩);refine bF ⟨plainId_quiet F.plain_extend_loop _,codeAny_extend_loopS W' (by show _<=2^24;exact qi hz rfl) _ hSf _ x.cps.size ys.size _ _ _ (by exact dO _ _) (aF _ _) ⟨0,rfl,hst⟩ hS ⟨rfl,λj v h=>⟨λ_=>h,λh'=>?_⟩⟩ λs' acc' c' hm hS' hacc=>?_⟩
 ·have:=(dM.mp h).1;exact (aX _ (ag this h')).elim
 ·refine hR s' (hQ s' acc' c' (λb ob hb e=>hm.heap b ob (λhb'=>?_) (aP _ e)) hm.gens hm.drawn hm.os hS' hacc.1 hacc.2);rcases jJ hb' with h|h
  ·exact hb h
  ·rw [aL.mp h] at e;exact absurd (du e) (aX _)
section
variable{k:Lv}
theorem bM.of_get(hl:xs.length=ys.length)(h:∀(i:Nat) (y:ay),ys[i]? =af y->∃x,xs[i]? =af x/\cB ρ x y):bM ρ xs ys:=by
 induction xs generalizing ys with
 |nil=>induction ys using aC with|nil=>trivial|cons _ _=>trivial
 |cons x xs ih=>
  induction ys using aC with
  |nil=>trivial
  |cons y ys=>
   refine ⟨?_,ih (by simpa using hl) λi y' hy=>?_⟩
   ·refine aR (h 0 y (by rfl)) λx' h1 h2=>?_;simp at h1;subst h1;exact h2
   ·simpa using h (i+1) y' (by simpa using hy)
theorem PD{ys acc:Array ay}(g2:bM ρ xs ys.toList)(k6:acc.size=ys.size+x.cps.size)
  (k7:∀(j:Nat) (v:ay),acc[j]? =af v->(j<ys.size->ys[j]? =af v)/\(ys.size<=j->SignAt x (j-ys.size) v)):bM ρ (xs++iR x) acc.toList:=by
 have hl:=g2.length.trans cj;refine bM.of_get (by rw [aq,nR,hl,cj,k6]) (λi y hy=>?_);rw [cV] at hy;obtain ⟨j1,j2⟩:=k7 i y hy;rcases ew i ys.size with hlt|hge
 ·refine aR (g2.DB (i:=i) (y:=y) (by refine (cV).trans ?_;exact j1 hlt)) λv' w1 w2=>?_;exact ⟨v',by refine (aJ (ag hlt (ar hl.symm))).trans ?_;exact w1,w2⟩
 ·refine gk (j2 hge) λcc u w1 q'1=>?_;obtain rfl:=q'1;refine ⟨.str ⟨#[cc]⟩,?_,⟨u,rfl⟩⟩;rw [bT (ai (ar hl) hge),xI,hl,w1];rfl
theorem Kk{x:ay}{xs:List ay}(r:kF A k)(BI:k.hd=ao)(F:Fits B ρ σ fr up env fl s)(hT:c.aj=B.aj)(e:Dj c o as up.fz ⟨fr,σ⟩=af (v,s₁))(hx:cB ρ o x)(hxs:bM ρ as xs)
  (q:KV B env fl up ρ s s₁.fr s₁.os v Q):wpAny (model B.pr B.w) A (call (.builtin "list.extend") (x::xs)) Q E s:=by
 refine listI e F hT hx λls p ys n i qI g1 g2 g3 hi e=>?_;refine wO e hxs λa y q'4 hy e=>?_;refine eh e (λw0 w e=>?_) λ_ e=>?_;rotate_left
 ·refine listE e F hT hy λzs p' ys' n' q'8 GF O7 Vt e=>?_;refine yN e λh4 Eu hv hs=>?_;subst qI;subst q'4;subst q'8;subst hv;subst hs;have hl:=g2.length.trans cj;have hl':=O7.length.trans cj;have hz:=iK (show decide _=ao from h4);rw [aq] at hz;have hk:=g2.toArray O7;obtain ⟨a1,a2⟩:=F.Ag (λzs=>zs++ys') Eu hi g1 hk (by refine lU▸ ?_;exact hl▸hl'▸hz) s.toks;exact mS kW ⟨_,g1,rfl⟩ qp (pW _ _) (AutoSeq1.list_extend_list_list_0 p ys n p' ys' n' (by
   have:rF (ys.size+ys'.size)=bf:=by unfold rF;rw [decide_eq_false];show¬_>2^24;exact hl▸hl'▸cD.mpr (qi hz rfl)
   refine this▸ ?_;simp) (by show _<=2^24;exact Pa hl (ai (aF _ _) hz) rfl) (by show _<=2^24+1;exact hl▸hl'▸qi hz rfl)) ⟨g1,GF,q _ _ _ a1 a2 rfl⟩
 obtain rfl:=nB w;obtain ⟨t,q'7⟩:=hy;refine xC e λhz e=>?_;refine yN e λh4 Eu hv hs=>?_;subst qI;subst q'4;subst q'7;subst hv;subst hs;have hl:=g2.length.trans cj;refine Hr (r.hd BI) _ t p ys n g1 (ai (cg (ar hl.symm) _) hz) λs' acc c' k1 k2 k3 k4 k5 k6 k7=>?_;have rel:=PD g2 k6 k7;refine d7 (F.DA (o:=.list (_++iR _)) Eu hi k1 k5 ⟨acc,c',rfl,rel,ai (ai (ar k6) (cg (ar hl.symm) _)) hz⟩ k2 k3 k4) λa1 a2=>?_;exact q _ _ _ a1 a2 rfl
theorem Hs(l:List Str):∀n:Nat,(l.toArray.foldl (λ(n:Nat) (x:Str)=>n+x.length+(⟨#[]⟩:Str).length) n)=n+(l.map (·.cps.size)).sum:=by
 intro n;rw [←Array.foldl_toList];simp only;induction l generalizing n with
 |nil=>rfl
 |cons x r ih=>
  rw [fO,ih,bx,jF];show n+x.cps.size+0+_=_;lia
theorem Kl(l:List Str):∀a:Str,(l.foldl (λa b=>a++b) a).cps.size=a.cps.size+(l.map (·.cps.size)).sum:=by
 induction l with
 |nil=>intro a;rfl
 |cons x r ih=>
  intro a;rw [fO,ih,bx,jF];show (a.cps++x.cps).size+_=_;refine lU▸ ?_;exact dC _ _ _
theorem PE{x:ay}{xs:List ay}(F:Fits B ρ σ fr up env fl s)(hT:c.aj=B.aj)(e:IG c o as up.fz ⟨fr,σ⟩=af (v,s₁))(hx:cB ρ o x)(hxs:bM ρ as xs)
  (q:KV B env fl up ρ s s₁.fr s₁.os v Q):wpAny (model B.pr B.w) A (call (.builtin "str.join") (x::xs)) Q E s:=by
 refine Hb e hx λ_ tk q'7 e=>?_;subst q'7;refine wO e hxs λa y q'4 hy e=>?_;subst q'4;refine xC e λhs e=>?_;subst hs;refine listE e F hT hy λls p ys n qI g1 g2 g3 e=>?_;subst qI;refine nD e λt j2 e=>?_;refine xC e λhz e=>?_;obtain ⟨rfl,rfl⟩:=aK e;refine aR (Hq j2) λl q'11 hl=>?_;obtain rfl:=q'11;refine aR (Mr g2) λts e1 e2=>?_;have e3:ys=(strValues ts).toArray:=by exact (e1).symm▸rfl
 have hg:l.foldl (λa b=>a++b) ⟨#[]⟩=t:=by rw [hl,rO]
 have hsz:(l.map (·.cps.size)).sum=t.cps.size:=by rw [←hg,Kl];simp
 refine mS PySem.F.slot_str_join (typeIs_str ..) PySem.F.entry_str_join (PySem.F.args_str_join_2 _ _) (meets_str_join_list _ tk p ts ?_) ⟨⟨_,g1,rfl,n,by exact (e3)▸rfl⟩,?_⟩
 ·rw [e2,Hs,hsz];have:¬(0+t.cps.size>sizeLine):=by show¬(_>2^24);exact cD.mpr (qi (ai (ar (fH _)) hz) rfl)
  exact decide_eq_false this
 ·match ts,e2 with
  | [p1],e2=>
   subst e2;simp at hg;subst hg;show Q _ _;refine q.same F ⟨p1.2,?_⟩;rw [rO]
  | [],e2=>
   show (lV _ _).length<=_/\Q _ _;rw [e2,zG,hg];exact ⟨by show BO _<=2^24;exact qi hz rfl,q.toks F ⟨_,rfl⟩⟩
  |p1::p2::r,e2=>
   show (lV _ _).length<=_/\Q _ _;rw [e2,zG,hg];exact ⟨by show BO _<=2^24;exact qi hz rfl,q.toks F ⟨_,rfl⟩⟩
end
theorem oP{I:bk}{fp wr:List bk}{P P':Nat->ay->Prop}(W:Walks prog w A I fp wr n P St)(h:∀i v,P i v->P' i v):Walks prog w A I fp wr n P' St where
 sub:=W.sub
 frame:=W.frame
 item:=λi s Q E hi st hQ=>W.item i s Q E hi st λv h' tk hp=>hQ v h' tk (h i v hp)
 done:=W.done
 self:=W.self
noncomputable def mW(o:Obj):Bool:=match o.cls with
 | .type n=> !["enumerate","zip","dict_itemiterator","dict_reverseitemiterator","odict_iterator","itertools.zip_longest","itertools.pairwise"].contains n
 |_=>ao
structure Iter(B:lH)(ρ:List bk)(src:Src)(I:bk)(fp:List bk)(St:Nat->pO->Prop):Prop where
 walks:∀A:iW,A.handled=ae->Walks B.pr B.w A I fp [I] src.items.length (λi v=>∃it,src.items[i]? =af it/\cB ρ it v) St
 fp:∀b∈fp,b=I∨(∃i,src.fz=af i/\ρ[i]? =af b)∨∃o,B.h₀.get? b=af o
 cls:∀i h,St i h->∃o,h.get? I=af o/\mW o=ao
section
variable{k:Lv}
theorem cY.RW:∀{es:List (K × V)}{kvs:List (K × ay)}{i:Nat}{kv:K × ay},cY ρ es kvs->kvs[i]? =af kv->∃v,es[i]? =af (kv.1,v)/\cB ρ v kv.2:=by
 intro es;induction es with
 |nil=>intro kvs i kv R h;obtain ⟨⟩:=kvs<;>first|(trivial;done)|obtain ⟨⟩:=R
 |cons e es ih=>
  intro kvs i kv R h;induction kvs using aC with
  |nil=>obtain ⟨⟩:=R
  |cons y kvs=>
   induction i using nM with
   |zero=>obtain ⟨⟩:=h;exact ⟨e.2,congrArg (λk=>af (k,e.2)) R.1.1,R.1.2⟩
   |succ i=>exact ih R.2 h
theorem Fits.E8(F:Fits B ρ σ fr up env fl s)(e:σ[i]? =af (.dict es))(hv:cB ρ (.ref i) val):
  ∃a kvs ep,val= .ref a/\ρ[i]? =af a/\(a==sysModules)=bf/\s.heap.DictAt (strKind B.pr B.w) a kvs ep/\cY ρ es kvs:=by
 refine dD (F.ref e hv) λa r h1 h2 h3 q'1 g7=>?_;obtain ⟨ds,n,kvs,g1,g2,g3,g4,g5,g6⟩:=q'1;exact ⟨a,kvs,n,h1,h2,F.Hc h2,⟨r,ds,h3,g1,g2,g3,g4,g5⟩,g6⟩
def KI(B:lH)(ρ:List bk)(s:aM)(src:Src)(Q:ay->aM->Prop):Prop:=∀o St fp,Iter B ρ src s.heap.objs.size fp St->St 0 (s.heap.push o)->Q (.ref s.heap.objs.size) {s with heap:=s.heap.push o}
theorem Ht{a b kk:Int}{t1 t2 t3:Tok}{p:bk}(g1:s.heap.get? p=af ⟨.type "range",ae,.fields #[.int a t1,.int b t2,.int kk t3],#[]⟩)(h0:0<kk)(hs:iM a b kk=ao)
  (q:KI B ρ s ⟨qU a b kk,ae⟩ Q):wpAny (model B.pr B.w) A (rB (.ref p)) Q E s:=by
 have hn:0<=ed a b kk:=by
  unfold ed;refine (if_pos h0)▸ ?_;split
  ·have:0<=(b-a-1)/kk:=Int.ediv_nonneg (by lia) (tH h0);exact Int.add_nonneg this (by decide)
  ·decide
 refine wpAny_pyIter_range g1 hs (q _ (λi h=>IsRangeIter h s.heap.objs.size (a+(i:Nat)*kk) (((ed a b kk).toNat:Int)-(i:Nat)) kk) [s.heap.objs.size] ⟨λA' hA=>?_,λb hb=>.inl (aL.mp hb),λi h st=>?_⟩ ?_)
 ·show Walks _ _ _ _ _ _ (qU a b kk).length _ _;rw [show (qU a b kk).length=(ed a b kk).toNat by unfold qU;simp];have W:=Walks.range (prog:=B.pr) (w:=B.w) hA s.heap.objs.size a kk (ed a b kk).toNat;refine Walks.mk W.sub W.frame (λi s Q E hi st hQ=>W.item i s Q E hi st λv h' tk hp=>hQ v h' tk ?_) W.done W.self;obtain ⟨t,rfl⟩:=hp;refine ⟨.int (a+(i:Int)*kk),?_,t,rfl⟩;unfold qU;rw [ei,List.getElem?_range hi];rfl
 ·exact ⟨_,st,by unfold mW;simp only;decide⟩
 ·show (s.heap.push _).get? s.heap.objs.size=_;refine (dh _ rfl).trans ?_;simp [vY hn]
theorem Mt{z:Str}{t:Tok}(q:KI B ρ s ⟨iR z,ae⟩ Q):wpAny (model B.pr B.w) A (rB (.str z t)) Q E s:=by
 have hP:∀(i:Nat) (v:ay),SignAt z i v->∃it,(iR z)[i]? =af it/\cB ρ it v:=λi v ⟨cc,u,h1,h2⟩=>⟨.str ⟨#[cc]⟩,by rw [xI,h1];rfl,u,h2⟩;cases ha:z.cps.all (· <128)
 ·refine wpAny_pyIter_wide ha (q _ (λi h=>h.IsStrIter s.heap.objs.size "str_iterator" z t i) [s.heap.objs.size] ⟨λA' hA=>?_,λb hb=>.inl (aL.mp hb),λi h st=>?_⟩ ⟨_,dh _ rfl,rfl,rfl⟩)
  ·rw [nR];exact oP (Walks.strWide hA _ z t) hP
  ·refine cO st λo h1 h2 h3=>?_;exact ⟨o,h1,by unfold mW;refine h2▸ ?_;decide⟩
 ·refine wpAny_pyIter_ascii ha (q _ (λi h=>h.IsStrIter s.heap.objs.size "str_ascii_iterator" z t i) [s.heap.objs.size] ⟨λA' hA=>?_,λb hb=>.inl (aL.mp hb),λi h st=>?_⟩ ⟨_,dh _ rfl,rfl,rfl⟩)
  ·rw [nR];exact oP (Walks.strAscii hA _ z t) hP
  ·refine cO st λo h1 h2 h3=>?_;exact ⟨o,h1,by unfold mW;refine h2▸ ?_;decide⟩
theorem Km{p:bk}{ys:Array ay}(g1:s.heap.get? p=af ⟨.type "list",ae,.seq ys n,#[]⟩)(g2:bM ρ xs ys.toList)(hi:ρ[i]? =af p)(q:KI B ρ s ⟨xs,af i⟩ Q):wpAny (model B.pr B.w) A (rB (.ref p)) Q E s:=by
 have fresh:∀{a:bk}{o:Obj},s.heap.get? a=af o->a≠s.heap.objs.size:=λh=>bP (du h);have hl:=g2.length.trans cj;refine wpAny_pyIter_list ⟨_,g1,rfl,n,rfl⟩ (q _ (λi h=>h.IsListIter s.heap.objs.size p i/\h.IsList p ys) [s.heap.objs.size,p] ⟨λA' hA=>?_,λb hb=>?_,λi h st=>?_⟩
  ⟨⟨_,dh _ rfl,rfl,rfl⟩,⟨_,aP _ g1,rfl,n,rfl⟩⟩)
 ·refine hl▸ ?_;exact oP (Walks.list hA _ p (fresh g1) ys) λi v h=>g2.DB (by refine (cV).trans ?_;exact h)
 ·rcases jJ hb with h|h
  ·exact .inl h
  ·exact .inr (.inl ⟨_,rfl,by rw [aL.mp h];exact hi⟩)
 ·obtain ⟨⟨o,k1,k2,k3⟩,_⟩:=st;exact ⟨o,k1,by unfold mW;refine k2▸ ?_;decide⟩
theorem iter_tuple{p:bk}{ys:Array ay}(g1:s.heap.get? p=af ⟨.type "tuple",ae,.seq ys n,#[]⟩)(g2:bM ρ xs ys.toList)(hi:ρ[i]? =af p)(q:KI B ρ s ⟨xs,af i⟩ Q):wpAny (model B.pr B.w) A (rB (.ref p)) Q E s:=by
 have fresh:∀{a:bk}{o:Obj},s.heap.get? a=af o->a≠s.heap.objs.size:=λh=>bP (du h);have hl:=g2.length.trans cj;refine wpAny_pyIter_tuple ⟨_,g1,rfl,n,rfl⟩ (q _ (λi h=>h.IsTupleIter s.heap.objs.size p i/\h.IsTuple p ys) [s.heap.objs.size,p] ⟨λA' hA=>?_,λb hb=>?_,λi h st=>?_⟩
  ⟨⟨_,dh _ rfl,rfl,rfl⟩,⟨_,aP _ g1,rfl,n,rfl⟩⟩)
 ·refine hl▸ ?_;exact oP (Walks.tuple hA _ p (fresh g1) ys) λi v h=>g2.DB (by refine (cV).trans ?_;exact h)
 ·rcases jJ hb with h|h
  ·exact .inl h
  ·exact .inr (.inl ⟨_,rfl,by rw [aL.mp h];exact hi⟩)
 ·obtain ⟨⟨o,k1,k2,k3⟩,_⟩:=st;exact ⟨o,k1,by unfold mW;refine k2▸ ?_;decide⟩
theorem Kn{x:ay}(F:Fits B ρ σ fr up env fl s)(Ik:σ[i]? =af (.dict es))(hx:cB ρ (.ref i) x)(q:KI B ρ s ⟨es.map λe=>.str e.1,af i⟩ Q):wpAny (model B.pr B.w) A (rB x) Q E s:=by
 have fresh:∀{a:bk}{o:Obj},s.heap.get? a=af o->a≠s.heap.objs.size:=λh=>bP (du h);refine jV (F.E8 Ik hx) λp kvs ep qI hi g0 g1 g2=>?_;subst qI;refine gk (id g1) λo1 es1 go _=>?_;refine wpAny_pyIter_dict g0 g1 (q _ (λi h=>h.IsKeyIter s.heap.objs.size p i kvs.length ep/\h.DictAt (strKind B.pr B.w) p kvs ep) [s.heap.objs.size,p] ⟨λA' hA=>?_,λb hb=>?_,λi h st=>?_⟩
  ⟨⟨_,dh _ rfl,rfl,rfl⟩,g1.push _⟩)
 ·simp only [aH];rw [g2.length];refine oP (Walks.dictKeys hA _ p (fresh go) kvs ep) λi v h=>?_;refine gk h λkk xx h2 h3=>?_;refine aR (g2.RW h2) λw h4 h5=>?_;obtain ⟨t,rfl⟩:=Value.isStrOf_shape h3;exact ⟨.str kk,by simp [h4],t,rfl⟩
 ·rcases jJ hb with h|h
  ·exact .inl h
  ·exact .inr (.inl ⟨_,rfl,by rw [aL.mp h];exact hi⟩)
 ·obtain ⟨⟨o,k1,k2,k3⟩,_⟩:=st;exact ⟨o,k1,by unfold mW;refine k2▸ ?_;decide⟩
theorem Ko{pv:bk}(F:Fits B ρ σ fr up env fl s)(Zl:σ[i]? =af (.dict es))(g0:ρ[i]? =af a)(gv:s.heap.get? pv=af ⟨.type "dict_values",ae,.fields #[.ref a],#[]⟩)(q:KI B ρ s ⟨es.map λe=>e.2,af i⟩ Q):wpAny (model B.pr B.w) A (rB (.ref pv)) Q E s:=by
 have fresh:∀{a:bk}{o:Obj},s.heap.get? a=af o->a≠s.heap.objs.size:=λh=>bP (du h);refine jV (F.E8 Zl ⟨a,g0,rfl⟩) λp kvs ep qI hi g0' g1 g2=>?_;(injection qI with qI;subst qI);refine gk (id g1) λo1 es1 go _=>?_;refine wpAny_pyIter_values (v:=pv) ⟨_,gv,rfl,rfl⟩ g1 (q _ (λi h=>h.IsValIter s.heap.objs.size a i kvs.length ep/\h.DictAt (strKind B.pr B.w) a kvs ep) [s.heap.objs.size,a] ⟨λA' hA=>?_,λb hb=>?_,λi h st=>?_⟩
  ⟨⟨_,dh _ rfl,rfl,rfl⟩,g1.push _⟩)
 ·simp only [aH];rw [g2.length];refine oP (Walks.dictValues hA _ a (fresh go) kvs ep) λi v h=>?_;obtain ⟨kk,h2⟩:=h;refine aR (g2.RW h2) λw h4 h5=>?_;exact ⟨w,by simp [h4],h5⟩
 ·rcases jJ hb with h|h
  ·exact .inl h
  ·exact .inr (.inl ⟨_,rfl,by rw [aL.mp h];exact hi⟩)
 ·obtain ⟨⟨o,k1,k2,k3⟩,_⟩:=st;exact ⟨o,k1,by unfold mW;refine k2▸ ?_;decide⟩
theorem qy{x:ay}{src:Src}(F:Fits B ρ σ fr up env fl s)(H:ej c B)(e:gN c v up.fz ⟨fr,σ⟩=af (src,s₁))(hx:cB ρ v x)
  (q:∀o St fp,Iter B ρ src s.heap.objs.size fp St->St 0 (s.heap.push o)->Q (.ref s.heap.objs.size) {s with heap:=s.heap.push o}):s₁=⟨fr,σ⟩/\c.hd=ao/\wpAny (model B.pr B.w) A (rB x) Q E s:=by
 have hT:=H.aj;refine VA λC hC=>?_;refine xC e λBI e=>?_;refine eh e (λz w e=>?_) (λ_ e=>?_)
 ·obtain ⟨rfl,rfl⟩:=aK e;rw [nB w] at hx;exact hC (lG hx λt ht=>⟨rfl,BI,ht▸Mt q⟩)
 refine bZ e λi w e=>?_;rw [qw w] at hx;refine objE e λob h1 e=>?_;refine eh e (λls w e=>?_) (λ_ e=>?_)
 ·obtain ⟨rfl,rfl⟩:=aK e;refine hC ⟨rfl,BI,vR (Ae w) (λw=>?_) λw=>?_⟩
  ·subst w;refine b9 (F.jC hT h1 hx) λp ys n qI g1 g2 g3=>?_;have hi:=qW hx qI;subst qI;exact Km g1 g2 hi q
  ·subst w;refine b9 (F.mG hT h1 hx) λp ys n qI g1 g2 g3=>?_;have hi:=qW hx qI;subst qI;exact iter_tuple g1 g2 hi q
 refine eh e (λls w e=>?_) (λ_ e=>?_)
 ·rw [qV w] at h1;obtain ⟨rfl,rfl⟩:=aK e;exact hC ⟨rfl,BI,Kn F (uG h1).1 hx q⟩
 refine eh e (λls w e=>?_) (λ_ e=>?_)
 ·rw [Pp w] at h1;refine xC e λhz e=>?_;obtain ⟨rfl,rfl⟩:=aK e;refine hC ⟨rfl,BI,?_⟩;refine d7 (F.obj hT h1 hx) λ_ r'4=>?_;refine ck r'4 λp r q'2 g1 r'5=>?_;refine sO r'5 λt1 t2 t3 q'3=>?_;subst q'2;subst q'3;exact Ht g1 hz.1 hz.2 q
 ·refine bZ e λd w e=>?_;rw [L6 w] at h1;refine objE e λob' h5 e=>?_;refine bZ e λes w e=>?_;rw [qV w] at h5;obtain ⟨rfl,rfl⟩:=aK e;refine hC ⟨rfl,BI,?_⟩;refine d7 (F.obj hT h1 hx) λ_ r'8=>?_;refine ck r'8 λpv r q'6 gv r'9=>?_;refine aR r'9 λa g0 q'7=>?_;subst q'6;subst q'7;exact Ko F (uG h5).1 g0 gv q
end
def VV(ρ:List bk):Fl->Flow->Prop
 | .next,f=>f= .next
 | .brk,f=>f= .brk
 | .cont,f=>f= .cont
 | .ret v,f=>∃x,f= .ret x/\cB ρ v x
 | .exc _,_=>False
noncomputable def Up.gK(up:Up)(o:Option Nat):Up:={up with fz:=o.toList++up.fz}
section
variable{ρ_0:List bk}{k:Lv}
theorem Fits.gK(F:Fits B ρ σ fr up env fl s)(o:Option Nat):Fits B ρ σ fr (up.gK o) env fl s:=
 ⟨F.rep,⟨F.mv.loc,F.mv.G9,F.mv.EU,F.mv.OZ⟩,F.ok,F.rM,F.oW,F.jK,F.mF,F.oY,F.gens,F.L8,F.Dt⟩
theorem Fits.E9{o:Option Nat}(F:Fits B ρ σ fr (up.gK o) env fl s):Fits B ρ σ fr up env fl s:=
 ⟨F.rep,⟨F.mv.loc,F.mv.G9,F.mv.EU,F.mv.OZ⟩,F.ok,F.rM,F.oW,F.jK,F.mF,F.oY,F.gens,F.L8,F.Dt⟩
theorem Step.E9{o:Option Nat}(x:Step ρ (wr (up.gK o) env) s ρ' s'):Step ρ (wr up env) s ρ' s':=
 ⟨x.ext,x.live,λb o h1 h2 h3=>x.keep b o h1 (h2.imp id λ⟨i,hi,h⟩=>⟨i,cI _ hi,h⟩) h3,x.wN,x.gens,x.os,x.drawn⟩
theorem Step.iter{W:Wr}{I:bk}(x:Step ρ W s ρ' s')(hI:s.heap.get? I=ae)(hk:∀b o,b≠I->s'.heap.get? b=af o->h'.get? b=af o):Step ρ W s ρ' {s' with heap:=h',toks:=tk}:=by
 have ne:∀b o,s.heap.get? b=af o->b≠I:=λb o h e=>by subst e;rw [hI] at h;exact nn h
 exact ⟨x.ext,λb o h=>let ⟨o',h'⟩:=x.live b o h;⟨o',hk b o' (ne b o h) h'⟩,λb o h h2 h3=>hk b o (ne b o h) (x.keep b o h h2 h3),λb hb hl o e=>let ⟨o',e',d'⟩:=x.wN b hb hl o e;⟨o',hk b o' (ne b o e) e',d'⟩,x.gens,x.os,x.drawn⟩
theorem Fits.iter{I:bk}(F:Fits B ρ σ fr up env fl s)(hI:I∉ρ)(hO:I∉own env)(hB:B.h₀.get? I=ae)(hF:I∉up.kE)(hk:∀b o,b≠I->s.heap.get? b=af o->h'.get? b=af o)(tk:Nat):
  Fits B ρ σ fr up env fl {s with heap:=h',toks:=tk}:=by
 refine ⟨F.rep.other λb o e hb=>hk b o (by
   rintro rfl;rcases hb with h|h
   ·exact hI h
   ·rw [hB] at h;exact nn h) e,F.mv.keep (Ext.refl _) λa ha o e=>hk a o (by rintro rfl;exact hO ha) e,F.ok,F.rM,F.oW,λa ha=>let ⟨o,h⟩:=F.jK a ha;⟨o,hk a o (by rintro rfl;exact hO ha) h⟩,F.mF,F.oY,F.gens,F.L8,λL hL=>?_⟩
 refine iA (F.Dt L hL) λh3 h4 h5 r'1=>?_;refine gj r'1 λo es n h6 h7=>?_;exact ⟨h3,h4,h5,o,es,n,hk L o (by rintro rfl;exact hF hL) h6,h7⟩
theorem Iter.stays{src:Src}{I:bk}{fp:List bk}(It:Iter B ρ_0 src I fp St)(hA:A.handled=ae)(F:Fits B ρ σ fr (up.gK src.fz) env fl s)(x:Ext ρ_0 ρ)(hI:I∉ρ)(hO:I∉own env)(hF:I∉up.kE)
  (st:St i s.heap) (hs:Step ρ (wr (up.gK src.fz) env) s ρ' s') (F':Fits B ρ' σ' et (up.gK src.fz) env fl s'):St i s'.heap/\I∉ρ':=by
 refine aR (It.cls i _ st) λo ho _=>?_;refine ⟨(It.walks A hA).frame i _ _ st λb hb ob e=>?_,?_⟩
 ·rcases It.fp b hb with rfl|⟨j,h1,h2⟩|⟨o',h1⟩
  ·exact hs.keep _ _ e (.inl hI) λh=>(aG.mp h).elim hO hF
  ·have h3:=x.at h2;refine hs.keep _ _ e (.inr ⟨j,?_,h3⟩) (F.Ti (bN h3));show j∈src.fz.toList++up.fz;refine h1▸ ?_;exact fm
  ·have:=F.base _ _ h1;rw [e] at this;(injection this with this;subst this);exact F'.base _ _ h1
 ·refine aR hs.ext λm e hm=>?_;refine e▸ ?_;intro h;rcases aG.mp h with h|h
  ·exact hI h
  ·rw [hm I h] at ho;exact nn ho
theorem Hu{src:Src}{I:bk}{fp:List bk}{target:Expr}{body:List fY}{turn:V->M Fl}{o:Obj}{f:Fl}(hA:A.handled=ae)
  (F_0:Fits B ρ_0 σ fr up env fl s) (hI:I=s.heap.objs.size) (It:Iter B ρ_0 src I fp St) (O8:St 0 (s.heap.push o))
  (hown:∀i h y (s':aM) (Q:Unit->aM->Prop) E',St i h->s'.heap=h->Q () s'->wpAny (model B.pr B.w) A (lr target (.ref I) y) Q E' s')
  (e:fU turn src.items (up.gK src.fz).fz ⟨fr,σ⟩=af (f,s₁))
  (ht:∀v y fr σ f s₁ ρ s (Q:Flow->aM->Prop) E',turn v (up.gK src.fz).fz ⟨fr,σ⟩=af (f,s₁)->(∀i,f≠ .exc i)->Fits B ρ σ fr (up.gK src.fz) env fl s->cB ρ v y->
   (∀ρ' s' tZ,Step ρ (wr (up.gK src.fz) env) s ρ' s'->Fits B ρ' s₁.os s₁.fr (up.gK src.fz) env fl s'->VV ρ' f tZ->Q tZ s')->
   wpAny (model B.pr B.w) A (assign target env y) (λ_ s_2=>wpAny (model B.pr B.w) A (execs body env) Q E' s_2) E' s)
  (q:∀ρ' s' tZ,Step ρ_0 (wr up env) s ρ' s'->Fits B ρ' s₁.os s₁.fr up env fl s'->VV ρ' f tZ->R (.ok tZ) s'):
  gP (model B.pr B.w) A (.forLoop target (.ref I) body [] env) R {s with heap:=s.heap.push o}:=by
 have fresh:s.heap.get? I=ae:=by refine hI▸ ?_;exact lx
 have hO:I∉own env:=λh=>by obtain ⟨o,ho⟩:=F_0.jK I h;rw [fresh] at ho;exact nn ho
 have OE:I∉ρ_0:=λh=>absurd (F_0.rep.lt h) (by rw [hI];exact aX _);have hB:B.h₀.get? I=ae:=by refine hI▸ ?_;exact F_0.rep.fresh
 have hF:I∉up.kE:=F_0.xD fresh;have W:=It.walks A hA;obtain ⟨stH,FH⟩:=F_0.hidden o s.toks;refine codeAny_forLoop_any (λn s'=>∃ρ' i et σ',n=src.items.length+1-i/\i<=src.items.length/\St i s'.heap/\Step ρ_0 (wr up env) s ρ' s'/\I∉ρ'/\Fits B ρ' σ' et (up.gK src.fz) env fl s'/\fU turn (src.items.drop i) (up.gK src.fz).fz ⟨et,σ'⟩=af (f,s₁))
  ?_ (src.items.length+1) ⟨ρ_0,0,fr,σ,rfl,eS _,O8,stH,OE,FH.gK _,e⟩
 rintro n s' ⟨ρ',i,et,σ',rfl,hi,st,hst,hIn,F',e'⟩;rcases ew i src.items.length with hlt|hge
 ·refine W.item i s' _ _ hlt st λv h' tk ⟨it,hit,hv⟩ st' hk=>?_;have hk':∀b o,b≠I->s'.heap.get? b=af o->h'.get? b=af o:=λb o hb e=>hk b o (by simpa using hb) e;have F2:=F'.iter hIn hO hB hF hk' tk;have st2:=hst.iter (tk:=tk) fresh hk';have hd:src.items.drop i=it::src.items.drop (i+1):=by
   obtain ⟨h1,h2⟩:=cS.mp hit;rw [fQ h1,h2]
  rw [hd] at e';refine bQ e' λf' s_2 h1 e'=>?_;refine hown (i+1) h' v _ _ _ st' rfl ?_;have wx:∀j,f'≠ .exc j:=λj hj=>by subst hj;exact nn e'
  refine ht it v et σ' f' s_2 ρ' _ _ _ h1 wx F2 (hv.ext hst.ext') λLl s'' tZ Gl zd hfl=>?_;obtain ⟨st3,Rq⟩:=It.stays hA F2 hst.ext' hIn hO hF st' Gl zd;have total:=st2.trans Gl.E9;obtain ⟨wu,σ_2⟩:=s_2;induction f' using Fl.casesOn with
  |next=>subst hfl;exact ⟨_,oo (gA hlt) (bU _),Ll,i+1,wu,σ_2,rfl,by exact hlt,st3,total,Rq,zd,e'⟩
  |cont=>subst hfl;exact ⟨_,oo (gA hlt) (bU _),Ll,i+1,wu,σ_2,rfl,by exact hlt,st3,total,Rq,zd,e'⟩
  |brk=>subst hfl;obtain ⟨rfl,rfl⟩:=aK e';exact q _ _ _ total zd.E9 rfl
  |ret w=>refine aR hfl λx q'2 hx=>?_;obtain rfl:=q'2;obtain ⟨rfl,rfl⟩:=aK e';exact q _ _ _ total zd.E9 ⟨x,rfl,hx⟩
  |exc j=>exact absurd rfl (wx j)
 ·have hi':i=src.items.length:=by exact ib hi hge
  subst hi';refine W.done s' _ _ st λh' tk hk=>?_;have hk':∀b o,b≠I->s'.heap.get? b=af o->h'.get? b=af o:=λb o hb e=>hk b o (by simpa using hb) e;rw [zh] at e';obtain ⟨rfl,rfl⟩:=aK e';exact t7 (q _ _ _ (hst.iter fresh hk') (F'.iter hIn hO hB hF hk' tk).E9 rfl)
end
theorem compTurn_gen{target iter:au}{ifs:List au}{it acc:ay}(hg:gens[d]? =af ⟨target,iter,ifs,0⟩):
  compTurn (.ListComp elt gens scope pos) d it acc env=(do
   lj iter.pos
   match←pyNext it with
   |none=>aA (.done .next)
   |some v=>
    lr target it v
    assign target env v
    let mut ok:=ao
    for c in ifs do
     if ok then ok←isTrue c env (eval c env)
    if ok then
     match gens[d+1]? with
     |some g'=>
      let x←eval g'.iter env
      lj g'.iter.pos
      let x←if g'.is_async != 0 then foldedIterable g'.iter x else qM g'.iter env x
      let _←runOwn (.compStart (.ListComp elt gens scope pos) (d+1) (←holding [x] (if g'.is_async != 0 then asyncIter x else rB x)) acc env) env
     |none=>(do let _←call (.builtin "list.append") [acc,←eval elt env])
    again (.compLoop (.ListComp elt gens scope pos) d it acc env)):=by
 unfold compTurn;simp only [hg];rfl
def xJ(M:Model)(A:iW)(elt:au)(gens:List iC)(scope:Scope)(pos:Pos)(d:Nat)(acc:ay)(env:Env)(Q:aM->Prop)(E:ay->aM->Prop)(s:aM):Prop:=match gens[d+1]? with
 |some g'=>g'.is_async=0/\(∀x,qM g'.iter env x=aA x)/\wpAny M A (eval g'.iter env) (λx s₁=>wpAny M A (rB x) (λit' s_2=>
   wpAny M A (runOwn (.compStart (.ListComp elt gens scope pos) (d+1) it' acc env) env) (λ_ s_3=>Q s_3) E s_2) E s₁) E s
 |none=>wpAny M A (eval elt env) (λx s₁=>wpAny M A (call (.builtin "list.append") [acc,x]) (λ_ s_2=>Q s_2) E s₁) E s
noncomputable def AV(ifs:List au)(env:Env):Sem Bool:=forIn ifs ao λc r=>if r=ao then do let ok←isTrue c env (eval c env);aA (dE ok) else aA (dE r)
theorem uJ{target iter:au}{ifs:List au}{it acc:ay}(hg:gens[d]? =af ⟨target,iter,ifs,0⟩)(I:Nat->aM->Prop)
  (turn:∀n s,I n s->wpAny (model prog w) A (pyNext it) (λr s₁=>match r with
   |none=>R (.ok .next) s₁
   |some v=>wpAny (model prog w) A (lr target it v) (λ_ Sp=>wpAny (model prog w) A (assign target env v) (λ_ s_2=>
     wpAny (model prog w) A (AV ifs env) (λok s_3=>if ok=ao then xJ (model prog w) A elt gens scope pos d acc env (λs_4=>∃m,m<n/\I m s_4) (tJ (model prog w) A env λe s'=>R (.error e) s') s_3
      else∃m,m<n/\I m s_3) (tJ (model prog w) A env λe s'=>R (.error e) s') s_2) (tJ (model prog w) A env λe s'=>R (.error e) s') Sp) (tJ (model prog w) A env λe s'=>R (.error e) s') s₁) (tJ (model prog w) A env λe s'=>R (.error e) s') s)
  (n:Nat) (h:I n s):gP (model prog w) A (.compLoop (.ListComp elt gens scope pos) d it acc env) R s:=by
 refine codeAny_loop rfl I (λn s hI=>?_) n h;show wpAny _ A ((compTurn (.ListComp elt gens scope pos) d it acc env).onRaise (λx=>do sz x env;theTreesLotGoes x)) _ _ s;refine wpAny_noted ?_;refine (compTurn_gen hg)▸ ?_;refine aB (eD (aB (fZ (turn n s hI) (λr s₁ h_1=>?_) λ_ _ h'=>h')));induction r using aw with
 |none=>exact bF h_1
 |some v=>
  refine aB (fZ h_1 (λ_ Sp h_1'=>?_) λ_ _ h'=>h');refine aB (fZ h_1' (λ_ s_2 h_2=>aB (fZ h_2 (λok s_3 h_3=>?_) λ_ _ h'=>h')) λ_ _ h'=>h');induction ok using cG with
  |false=>exact bF ⟨rfl,h_3⟩
  |true=>
   have h_4:xJ (model prog w) A elt gens scope pos d acc env (λs_4=>∃m,m<n/\I m s_4) (tJ (model prog w) A env λe s'=>R (.error e) s') s_3:=h_3;unfold xJ at h_4;induction hq:gens[d+1]? using aw with
   |none=>
    rw [hq] at h_4;exact aB (aB (fZ h_4 (λx s_4 h_5=>aB (fZ h_5 (λ_ s_5 h_6=>bF (bF ⟨rfl,h_6⟩)) λ_ _ h'=>h')) λ_ _ h'=>h'))
   |some g'=>
    rw [hq] at h_4;refine cW h_4 λa0 fs h_4=>?_;have ab:(g'.is_async != 0)=bf:=by rw [a0];rfl
    refine aB (fZ h_4 (λx s_4 h_5=>aB (eD ?_)) λ_ _ h'=>h');simp only [ab,cR,if_false];refine aB (nO (fs x) (aB (dZ (fZ h_5 (λit' s_5 h_6=>?_) λ_ _ h'=>h'))));exact aB (fZ h_6 (λ_ s_6 h_7=>bF ⟨rfl,h_7⟩) λ_ _ h'=>h')
structure lJ(I:bk)(ρ:List bk)(W:Wr)(s:aM)(ρ':List bk)(s':aM):Prop where
 ext:∃m,ρ'=ρ++m/\∀a∈m,s.heap.get? a=ae
 live:∀b o,b≠I->s.heap.get? b=af o->∃o',s'.heap.get? b=af o'
 keep:∀b o,b≠I->s.heap.get? b=af o->(b∉ρ∨∃i∈W.fz,ρ[i]? =af b)->b∉W.own->s'.heap.get? b=af o
 wN:∀b∈W.kE,b∉W.loc->b≠I->∀o,s.heap.get? b=af o->∃o',s'.heap.get? b=af o'/\o'.data=o.data
 gens:s'.gens=s.gens
 os:s'.os=s.os
 drawn:s'.drawn=s.drawn
section
variable{ρ_0 ρi:List bk}{s_0:aM}{k:Lv}{I:bk}{W:Wr}
theorem lJ.ext'(x:lJ I ρ W s ρ' s'):Ext ρ ρ':=let ⟨m,e,_⟩:=x.ext;⟨m,e⟩
theorem lJ.refl:lJ I ρ W s ρ s:=⟨⟨[],by simp,λ_ h=>nomatch h⟩,λ_ o _ e=>⟨o,e⟩,λ_ _ _ e _ _=>e,λ_ _ _ _ o e=>⟨o,e,rfl⟩,rfl,rfl,rfl⟩
theorem lJ.move(x:lJ I ρ W s ρ' s')(hk:∀b o,b≠I->s'.heap.get? b=af o->h'.get? b=af o):lJ I ρ W s ρ' {s' with heap:=h',toks:=tk}:=
 ⟨x.ext,λb o hb h=>let ⟨o',h'⟩:=x.live b o hb h;⟨o',hk b o' hb h'⟩,λb o hb h h2 h3=>hk b o hb (x.keep b o hb h h2 h3),λb hb hl hi o e=>let ⟨o',e',d'⟩:=x.wN b hb hl hi o e;⟨o',hk b o' hi e',d'⟩,x.gens,x.os,x.drawn⟩
theorem lJ.step{ρ_1 ρ_2:List bk}{s₁ s_2:aM}{oI:Obj}(x:lJ I ρ W s ρ_1 s₁)(hI:s₁.heap.get? I=af oI)(y:Step ρ_1 W s₁ ρ_2 s_2):lJ I ρ W s ρ_2 s_2:=by
 refine aR x.ext λm e hm=>?_;refine aR y.ext λm' e' hm'=>?_;refine ⟨⟨m++m',by rw [e',e,aQ],λa ha=>?_⟩,λb o hb h=>let ⟨o',h'⟩:=x.live b o hb h;y.live b o' h',λb o hb h h1 h2=>?_,λb hb hl hi o e=>let ⟨o_1,e_1,d₁⟩:=x.wN b hb hl hi o e;let ⟨o_2,e_2,d_2⟩:=y.wN b hb hl o_1 e_1;⟨o_2,e_2,d_2.trans d₁⟩,y.gens.trans x.gens,y.os.trans x.os,y.drawn.trans x.drawn⟩
 ·rcases aG.mp ha with ha|ha
  ·exact hm a ha
  ·induction q:s.heap.get? a using aw with
   |none=>rfl
   |some o=>
    obtain ⟨o',h'⟩:=x.live a o (by rintro rfl;rw [hm' _ ha] at hI;exact nn hI) q;rw [hm' a ha] at h';exact nn h'
 ·refine y.keep b o (x.keep b o hb h h1 h2) ?_ h2;rcases h1 with h1|⟨i,hi,h1⟩
  ·refine .inl ?_;refine e▸ ?_;intro hq;rcases aG.mp hq with hq|hq
   ·exact h1 hq
   ·rw [hm b hq] at h;exact nn h
  ·exact .inr ⟨i,hi,x.ext'.at h1⟩
theorem lJ.E9{o:Option Nat}(x:lJ I ρ (wr (up.gK o) env) s ρ' s'):lJ I ρ (wr up env) s ρ' s':=
 ⟨x.ext,x.live,λb o hb h1 h2 h3=>x.keep b o hb h1 (h2.imp id λ⟨i,hi,h⟩=>⟨i,cI _ hi,h⟩) h3,x.wN,x.gens,x.os,x.drawn⟩
theorem lJ.whole{o:Obj}(x:lJ I ρ W {s with heap:=s.heap.push o} ρ' s')(hI:I=s.heap.objs.size):Step ρ W s ρ' s':=by
 have ne:∀b o,s.heap.get? b=af o->b≠I:=λb o h e=>by subst e;rw [hI,lx] at h;exact nn h
 refine aR x.ext λm e hm=>?_;refine ⟨⟨m,e,λa ha=>?_⟩,λb o h=>x.live b o (ne b o h) (aP _ h),λb o h h2 h3=>x.keep b o (ne b o h) (aP _ h) h2 h3,λb hb hl o h=>x.wN b hb hl (ne b o h) o (aP _ h),x.gens,x.os,x.drawn⟩;induction q:s.heap.get? a using aw with
 |none=>rfl
 |some o'=>
  have:=aP o q;rw [show (s.heap.push o).get? a=ae from hm a ha] at this;exact nn this
theorem Ff{src:Src}{fp:List bk}{target iter:au}{ifs:List au}{acc:ay}{turn:V->M Unit}
  (hA:A.handled=ae) (hg:gens[d]? =af ⟨target,iter,ifs,0⟩) (F_0:Fits B ρ_0 σ fr up env fl s_0) (It:Iter B ρi src I fp St) (xi:Ext ρi ρ_0) (O8:St 0 s_0.heap) (OE:I∉ρ_0) (hO:I∉own env) (hB:B.h₀.get? I=ae) (hF:I∉up.kE)
  (hown:∀i h y (s':aM) (Q:Unit->aM->Prop) E',St i h->s'.heap=h->Q () s'->wpAny (model B.pr B.w) A (lr target (.ref I) y) Q E' s')
  (e:fu turn src.items (up.gK src.fz).fz ⟨fr,σ⟩=af ((),s₁))
  (ht:∀v y fr σ u s₁ ρ s (Q:aM->Prop) E',Ext ρ_0 ρ->turn v (up.gK src.fz).fz ⟨fr,σ⟩=af (u,s₁)->Fits B ρ σ fr (up.gK src.fz) env fl s->cB ρ v y->
   (∀ρ' s',Step ρ (wr (up.gK src.fz) env) s ρ' s'->Fits B ρ' s₁.os s₁.fr (up.gK src.fz) env fl s'->Q s')->
   wpAny (model B.pr B.w) A (assign target env y) (λ_ s_2=>wpAny (model B.pr B.w) A (AV ifs env) (λok s_3=>if ok=ao then xJ (model B.pr B.w) A elt gens scope pos d acc env Q E' s_3 else Q s_3) E' s_2) E' s)
  (q:∀ρ' s',lJ I ρ_0 (wr up env) s_0 ρ' s'->Fits B ρ' s₁.os s₁.fr up env fl s'->R (.ok .next) s'):
  gP (model B.pr B.w) A (.compLoop (.ListComp elt gens scope pos) d (.ref I) acc env) R s_0:=by
 have W:=It.walks A hA;refine uJ hg (λn s'=>∃ρ' i et σ',n=src.items.length+1-i/\i<=src.items.length/\St i s'.heap/\lJ I ρ_0 (wr up env) s_0 ρ' s'/\I∉ρ'/\Fits B ρ' σ' et (up.gK src.fz) env fl s'/\fu turn (src.items.drop i) (up.gK src.fz).fz ⟨et,σ'⟩=af ((),s₁))
  ?_ (src.items.length+1) ⟨ρ_0,0,fr,σ,rfl,eS _,O8,.refl,OE,F_0.gK _,e⟩
 rintro n s' ⟨ρ',i,et,σ',rfl,hi,st,hst,hIn,F',e'⟩;rcases ew i src.items.length with hlt|hge
 ·refine W.item i s' _ _ hlt st λv h' tk ⟨it,hit,hv⟩ st' hk=>?_;have hk':∀b o,b≠I->s'.heap.get? b=af o->h'.get? b=af o:=λb o hb e=>hk b o (by simpa using hb) e;have F2:=F'.iter hIn hO hB hF hk' tk;have st2:=hst.move (tk:=tk) hk';have hd:src.items.drop i=it::src.items.drop (i+1):=by
   obtain ⟨h1,h2⟩:=cS.mp hit;rw [fQ h1,h2]
  rw [hd] at e';refine bQ e' λu s_2 h1 e'=>?_;refine hown (i+1) h' v _ _ _ st' rfl ?_;refine aR (It.cls (i+1) h' st') λoI hoI _=>?_;refine ht it v et σ' u s_2 ρ' _ (λs_4=>∃m,m<src.items.length+1-i/\_) _ hst.ext' h1 F2 (hv.ext (xi.trans hst.ext')) λLl s'' Gl zd=>?_;obtain ⟨st3,Rq⟩:=It.stays hA F2 (xi.trans hst.ext') hIn hO hF st' Gl zd;obtain ⟨wu,σ_2⟩:=s_2;exact ⟨_,oo (gA hlt) (bU _),Ll,i+1,wu,σ_2,rfl,by exact hlt,st3,st2.step hoI Gl.E9,Rq,zd,e'⟩
 ·have hi':i=src.items.length:=by exact ib hi hge
  subst hi';refine W.done s' _ _ st λh' tk hk=>?_;have hk':∀b o,b≠I->s'.heap.get? b=af o->h'.get? b=af o:=λb o hb e=>hk b o (by simpa using hb) e;rw [zh] at e';obtain ⟨_,rfl⟩:=aK e';exact q _ _ (hst.move hk') (F'.iter hIn hO hB hF hk' tk).E9
end
structure yP(B:lH)(c:Cx)(k:Lv):Prop where
 n9:ej c B
 hd:c.hd=ao->k.hd=ao
def dP(B:lH)(c:Cx)(k:Lv)(e:au):Prop:=∀(env:Env) (fl:List Env) (up:Up) (fr:eB) (σ:List O) (v:V) (s₁:eP),cX c e up.sc up.vals up.fz ⟨fr,σ⟩=af (v,s₁)->
 ∀(A:iW) (ρ:List bk) (s:aM) (Q:ay->aM->Prop) (E:ay->aM->Prop),kF A k->A.frames=af fl->Fits B ρ σ fr up env fl s->KV B env fl up ρ s s₁.fr s₁.os v Q->wpAny (model B.pr B.w) A (eval e env) Q E s
abbrev YQ(B:lH)(env:Env)(fl:List Env)(up:Up)(ρ:List bk)(s:aM)(et:eB)(σ':List O)(v:List V)(Q:List ay->aM->Prop):Prop:=
 ∀ρ' s' x,Step ρ (wr up env) s ρ' s'->Fits B ρ' σ' et up env fl s'->bM ρ' v x->Q x s'
def CM(B:lH)(c:Cx)(k:Lv)(es:List au):Prop:=∀(env:Env) (fl:List Env) (up:Up) (fr:eB) (σ:List O) (v:List V) (s₁:eP) (pos:Pos),AG c es up.sc up.vals up.fz ⟨fr,σ⟩=af (v,s₁)->
 ∀(A:iW) (ρ:List bk) (s:aM) (Q:List ay->aM->Prop) (E:ay->aM->Prop),kF A k->A.frames=af fl->Fits B ρ σ fr up env fl s->YQ B env fl up ρ s s₁.fr s₁.os v Q->wpAny (model B.pr B.w) A (spliced (kb pos (fK es env))) Q E s
def o6(B:lH)(c:Cx)(k:Lv)(es:List au):Prop:=∀(env:Env) (fl:List Env) (up:Up) (fr:eB) (σ:List O) (v:List V) (s₁:eP) (pos:Pos),uD c es up.sc up.vals up.fz ⟨fr,σ⟩=af (v,s₁)->
 ∀(A:iW) (ρ:List bk) (s:aM) (Q:List ay->aM->Prop) (E:ay->aM->Prop),kF A k->A.frames=af fl->Fits B ρ σ fr up env fl s->YQ B env fl up ρ s s₁.fr s₁.os v Q->wpAny (model B.pr B.w) A (spliced (kb pos (fK es env))) Q E s
theorem Ah(e:au):notStar e=ao∨∃y p,e= .Starred y p:=by
 induction e using bg<;>first|exact .inl rfl|exact .inr ⟨_,_,rfl⟩
theorem PF(e:au):notAttr e=ao∨∃o n p,e= .Attribute o n p:=by
 induction e using bg<;>first|exact .inl rfl|exact .inr ⟨_,_,_,rfl⟩
theorem kQ{rest:List au}(h:notStar e=ao):fK (e::rest) env=(bf,eval e env)::fK rest env:=by
 induction e using bg<;>first|rfl|injection h
section
variable{k:Lv}
theorem PG:CM B c k []:=λenv fl up fr σ v s₁ pos e A ρ s Q E r a F q=>by
 obtain ⟨rfl,rfl⟩:=aK e;exact t8 (q ρ s [] Step.refl F trivial)
theorem Mu{es:List au}(hs:notStar e=ao)(h:dP B c k e)(hr:CM B c k es):CM B c k (e::es):=λenv fl up fr σ v s₁ pos ev A ρ s Q E r a F q=>by
 refine bQ ev λw s_2 h1 ev=>?_;refine bQ ev λws s_3 h2 ev=>?_;obtain ⟨rfl,rfl⟩:=aK ev;refine wpAny_items_cons (h env fl up fr σ w s_2 h1 A ρ s _ E r a F λρ_1 t_1 x st F_1 hx=>?_) (kQ hs);exact hr env fl up s_2.fr s_2.os ws _ pos h2 A ρ_1 t_1 _ E r a F_1 λρ_2 s_2 xs st' F_2 hxs=>q ρ_2 s_2 _ (st.trans st') F_2 ⟨hx.ext st'.ext',hxs⟩
theorem args_nil:o6 B c k []:=λenv fl up fr σ v s₁ pos e A ρ s Q E r a F q=>by
 obtain ⟨rfl,rfl⟩:=aK e;exact t8 (q ρ s [] Step.refl F trivial)
theorem args_cons{es:List au}(hs:notStar e=ao)(h:dP B c k e)(hr:o6 B c k es):o6 B c k (e::es):=λenv fl up fr σ v s₁ pos ev A ρ s Q E r a F q=>by
 have ev':(do let v←cX c e up.sc up.vals;let vs←uD c es up.sc up.vals;aA (v::vs):M (List V)) up.fz ⟨fr,σ⟩=af (v,s₁):=by
  induction e using bg<;>first|exact ev|injection hs
 refine bQ ev' λw s_2 h1 ev'=>?_;refine bQ ev' λws s_3 h2 ev'=>?_;obtain ⟨rfl,rfl⟩:=aK ev';refine wpAny_items_cons (h env fl up fr σ w s_2 h1 A ρ s _ E r a F λρ_1 t_1 x st F_1 hx=>?_) (kQ hs);exact hr env fl up s_2.fr s_2.os ws _ pos h2 A ρ_1 t_1 _ E r a F_1 λρ_2 s_2 xs st' F_2 hxs=>q ρ_2 s_2 _ (st.trans st') F_2 ⟨hx.ext st'.ext',hxs⟩
theorem I0{T:String}{ys:Array ay}{Q:List ay->aM->Prop}(hT:T= "list" ∨T= "tuple")(ho:s.heap.get? a=af ⟨.type T,ae,.seq ys n,#[]⟩)(hz:ys.size<=1000000)
  (h:∀h',(∀b o',s.heap.get? b=af o'->h'.get? b=af o')->Q ys.toList {s with heap:=h'}):StarOf (model B.pr B.w) A E (.ref a) Q s:=by
 have Yt:s.TypeIs (.ref a) T:=⟨_,ho,rfl⟩;have z:wpAny (model B.pr B.w) A (collect (.ref a)) Q E s:=wpAny_collect_seq a hT ho rfl rfl h (by show _<=2^24;exact qi hz rfl);unfold StarOf notIterableAtAll;rcases hT with rfl|rfl
 ·exact aB (nZ Yt PySem.F.slot_list_iter.lookup (bF ⟨rfl,z⟩))
 ·exact aB (nZ Yt PySem.F.slot_tuple_iter.lookup (bF ⟨rfl,z⟩))
theorem AW{x:ay}{s':eP}{Q:List ay->aM->Prop}(F:Fits B ρ σ fr up env fl s)(H:ej c B)(e:zC c v up.fz ⟨fr,σ⟩=af (xs,s'))(hx:cB ρ v x)(q:YQ B env fl up ρ s s'.fr s'.os xs Q):StarOf (model B.pr B.w) A E x Q s:=
 objE e λo h1 e=>bZ e λys w e=>by
  obtain ⟨rfl,rfl⟩:=aK e;refine vR (Ae w) (λw=>?_) λw=>?_
  ·rw [w] at h1;refine b9 (F.jC H.aj h1 hx) λp ys n q'1 g1 g2 g3=>?_;subst q'1;exact I0 (.inl rfl) g1 g3 λh' hk=>d7 (F.grown hk s.toks) λst F'=>q ρ _ _ st F' g2
  ·rw [w] at h1;refine b9 (F.mG H.aj h1 hx) λp ys n q'1 g1 g2 g3=>?_;subst q'1;exact I0 (.inr rfl) g1 g3 λh' hk=>d7 (F.grown hk s.toks) λst F'=>q ρ _ _ st F' g2
theorem Kp{p:Pos}(H:ej c B)(h:dP B c k e):o6 B c k [.Starred e p]:=λenv fl up fr σ v s₁ pos ev A ρ s Q E r a F q=>by
 refine bQ ev λw s_2 h1 JI=>?_;refine items_star (h env fl up fr σ w s_2 h1 A ρ s _ E r a F λρ_1 t_1 x st F_1 hx=>?_);refine AW F_1 H JI hx λρ_2 t_2 ys st' F_2 hys=>?_;refine t8 ?_;rw [bB];exact q ρ_2 t_2 ys (st.trans st') F_2 hys
theorem xK{f:ay}{Q:Args->aM->Prop}(H:ej c B)(hargs:o6 B c k args)(hstar:∀e p,args= [.Starred e p]->dP B c k e)
  (e:uD c args up.sc up.vals up.fz ⟨fr,σ⟩=af (vs,s₁)) (r:kF A k) (a:A.frames=af fl) (F:Fits B ρ σ fr up env fl s)
  (q:∀ρ' s' x,Step ρ (wr up env) s ρ' s'->Fits B ρ' s₁.os s₁.fr up env fl s'->bM ρ' vs x->Q ⟨x,[]⟩ s'):wpAny (model B.pr B.w) A (evalArgs f ao (kb pos (fK args env)) []) Q E s:=by
 induction args using aC with
 |nil=>
  obtain ⟨rfl,rfl⟩:=aK e;exact rG (q ρ s [] Step.refl F trivial)
 |cons x rest=>
  rcases Ah x with hx|⟨y,p,rfl⟩
  ·have:=hargs env fl up fr σ vs s₁ pos e A ρ s (λvs s'=>Q ⟨vs,[]⟩ s') E r a F λρ' s' y st F' hy=>q ρ' s' y st F' hy;rw [kQ hx] at this ⊢;exact Calls.evalArgs_plain this
  ·induction rest using aC with
   |nil=>
    refine bQ e λw s_2 h1 e1=>?_;refine ks_lone (hstar y p rfl env fl up fr σ w s_2 h1 A ρ s _ E r a F λρ_1 t_1 x st F_1 hx=>?_);exact AW F_1 H e1 hx λρ_2 t_2 ys st' F_2 hys=>q ρ_2 t_2 ys (st.trans st') F_2 hys
   |cons z zs=>
    refine bQ e λw s_2 h1 e1=>?_;exact nomatch (show (ae:Option (V × eP))=af (w,s_2) from h1)
end
def RX(ρ:List bk)(s_0 s:aM)(x:ay):Prop:=∃e T oe vs oT ts,x= .ref e/\s_0.heap.get? e=ae/\s_0.heap.get? T=ae/\T∉ρ/\T≠e/\s.heap.get? e=af oe/\oe.data= .fields vs/\vs[1]? =af (.ref T)/\
 s.heap.get? T=af oT/\oT.data= .fields ts/\ts[3]? =af .none
abbrev KX(B:lH)(env:Env)(fl:List Env)(up:Up)(ρ:List bk)(s:aM)(et:eB)(σ':List O)(i:Nat)(E:ay->aM->Prop):Prop:=
 ∀ρ' s' x,Step ρ (wr up env) s ρ' s'->Fits B ρ' σ' et up env fl s'->cB ρ' (.ref i) x->RX ρ' s s' x->E x s'
def KR(B:lH)(env:Env)(fl:List Env)(up:Up)(ρ:List bk)(s:aM)(et:eB)(σ':List O)(r:CR)(Q E:ay->aM->Prop):Prop:=match r with
 | .ret v=>KV B env fl up ρ s et σ' v Q
 | .exc i=>KX B env fl up ρ s et σ' i E
def kG(B:lH)(c:Cx)(k:Lv):Prop:=∀(env:Env) (fl:List Env) (up:Up) (fr:eB) (σ:List O) (a:bk) (as:List V) (r:CR) (os':List O),c.call (.top a) as σ up.fz=af (r,os')->
 ∀(A:iW) (ρ:List bk) (s:aM) (Q:ay->aM->Prop) (E:ay->aM->Prop) (vals:List ay),kF A k->A.frames=af fl->A.handled=ae->Fits B ρ σ fr up env fl s->bM ρ as vals->
  KR B env fl up ρ s fr os' r Q E->gP (model B.pr B.w) A (.call (.ref a) ⟨vals,[]⟩) (λr s'=>match r with| .ok (.ret v)=>Q v s'| .ok _=>False| .error e=>E e s') s
section
variable{M:Model}
theorem jZ{f:ay}{first:List ay}{pos':Pos}{P:pO->Prop}(hk:∀h,P h->∃k,(k=oJ∨k=lW∨k=jQ)/\Looks M h (yx f) k)
  (h:wpAny M A (evalArgs f ao (kb pos (fK args env)) []) (λa s₁=>P s₁.heap/\wpAny M A (call f (first++a.pos) a.kw) Q E s₁) E s):wpAny M A (callWith pos' f first (kb pos (fK args env)) []) Q E s:=by
 induction hst:(kb pos (fK args env)).any (·.1) using cG with
 |true=>exact ks_call hst hk h
 |false=>exact callWith_of (by rw [hst];rfl) hk h
theorem AX{id:String}(h:pO):∃k,(k=oJ∨k=lW∨k=jQ)/\Looks M h (yx (.builtin id)) k:=⟨.machine,.inr (.inl rfl),wy rfl⟩
theorem Hv{n:String}(h:pO):∃k,(k=oJ∨k=lW∨k=jQ)/\Looks M h (yx (.type n)) k:=⟨.machine,.inr (.inl rfl),wy rfl⟩
end
section
variable{k:Lv}
theorem AY{f:bk}{r:CR}(H:yP B c k)(hc:kG B c k)(e:dN c (.top f) as up.fz ⟨fr,σ⟩=af (r,s₁))(rm:kF A k)(a:A.frames=af fl)(F:Fits B ρ σ fr up env fl s)
  (hv:bM ρ as vals) (q:KR B env fl up ρ s s₁.fr s₁.os r Q E):gP (model B.pr B.w) A (.call (.ref f) ⟨vals,[]⟩) (λr s'=>match r with| .ok (.ret v)=>Q v s'| .ok _=>False| .error e=>E e s') s:=by
 refine xC e λhz e=>?_;rw [aS] at hz;refine lmap e λq'2 h1 h2=>?_;obtain ⟨r',os'⟩:=q'2;obtain ⟨⟩:=h2;exact hc env fl up fr σ _ as _ _ h1 A ρ s Q E vals rm a (rm.hd (H.hd hz.1)) F hv q
theorem AZ{f:V}{r:CR}{x:ay}(H:yP B c k)(hc:kG B c k)(e:dN c f as up.fz ⟨fr,σ⟩=af (r,s₁))(rm:kF A k)(a:A.frames=af fl)(F:Fits B ρ σ fr up env fl s)
  (hx:cB ρ f x) (hv:bM ρ as vals) (q:KR B env fl up ρ s s₁.fr s₁.os r Q E):wpAny (model B.pr B.w) A (call x vals) Q E s:=by
 refine eh e (λy w e=>?_) (λ_ e=>?_)
 ·rw [VI w] at hx;refine xC e λ_ e=>?_;refine bQ e λv s_2 h1 e1=>?_;obtain ⟨rfl,rfl⟩:=aK e1;subst hx;exact VU F H.n9 h1 hv q
 refine eh e (λy w e=>?_) (λ_ e=>?_)
 ·rw [L7 w] at hx;refine xC e λ_ e=>?_;refine bQ e λv s_2 h1 e1=>?_;obtain ⟨rfl,rfl⟩:=aK e1;subst hx;exact Pz F H.n9 h1 hv q
 ·refine bZ e λy w e=>?_;rw [IT w] at hx;subst hx;exact pS (AY H hc e rm a F hv q)
theorem uK{f:V}{r:CR}{x:ay}{Xb:eB}{σ_0:List O}(H:ej c B)(e:dN c f as up.fz ⟨Xb,σ_0⟩=af (r,s₁))(hx:cB ρ' f x):
  ∀h,B.K.In h->∃k,(k=oJ∨k=lW∨k=jQ)/\Looks (model B.pr B.w) h (yx x) k:=by
 refine eh e (λy w e=>?_) (λ_ e=>?_)
 ·rw [VI w] at hx;subst hx;exact λh _=>AX h
 refine eh e (λy w e=>?_) (λ_ e=>?_)
 ·rw [L7 w] at hx;subst hx;exact λh _=>Hv h
 ·refine bZ e λy w e=>?_;rw [IT w] at hx;refine xC e λhz e=>?_;rw [aS,H.K] at hz;subst hx;exact keeps_K hz.2
theorem CN{id:String}{x:ay}{xs:List ay}(H:yP B c k)(BI:c.hd=ao∨id= "list.pop")(rm:kF A k)(F:Fits B ρ σ fr up env fl s)
  (e:ft c id o as up.fz ⟨fr,σ⟩=af (v,s₁)) (hx:cB ρ o x) (hxs:bM ρ as xs) (q:KV B env fl up ρ s s₁.fr s₁.os v Q):wpAny (model B.pr B.w) A (call (.builtin id) (x::xs)) Q E s:=by
 have hT:=H.n9.aj;refine EC e (λh e=>?_) λe=>?_
 ·subst h;exact CL F hT e hx hxs q
 refine EC e (λh e=>?_) λe=>?_
 ·subst h;exact Kk rm (H.hd (BI.resolve_right (by decide))) F hT e hx hxs q
 refine EC e (λh e=>?_) λe=>?_
 ·subst h;exact Mo F hT e hx hxs q
 refine EC e (λh e=>?_) λe=>?_
 ·subst h;exact Tr F hT e hx hxs q
 refine EC e (λh e=>?_) λe=>?_
 ·subst h;exact Mp F hT e hx hxs q
 refine EC e (λh e=>?_) λe=>?_
 ·subst h;exact Mq F hT e hx hxs q
 refine EC e (λh e=>?_) λe=>?_
 ·subst h;exact PB F hT e hx hxs q
 refine EC e (λh e=>?_) λe=>?_
 ·subst h;exact Ki F hT e hx hxs q
 refine EC e (λh e=>?_) λe=>?_
 ·subst h;exact PC F hT e hx hxs q
 refine EC e (λh e=>?_) λe=>?_
 ·subst h;exact Ms F e hx hxs q
 refine EC e (λh e=>?_) λe=>?_
 ·subst h;exact PE F hT e hx hxs q
 refine xC e λh e=>?_;subst h;exact Kj F e hx hxs q
end
def o7(B:lH)(c:Cx)(k:Lv)(e:au):Prop:=∀(env:Env) (fl:List Env) (up:Up) (fr:eB) (σ:List O) (b:Bool) (s₁:eP),tU c e up.sc up.vals (cX c e up.sc up.vals) up.fz ⟨fr,σ⟩=af (b,s₁)->
 ∀(A:iW) (ρ:List bk) (s:aM) (Q:Bool->aM->Prop) (E:ay->aM->Prop),kF A k->A.frames=af fl->Fits B ρ σ fr up env fl s->KA B env fl up ρ s s₁.fr s₁.os b Q->wpAny (model B.pr B.w) A (isTrue e env (eval e env)) Q E s
section
variable{k:Lv}
theorem Mv{kd:Const}:dP B c k (.Constant kd n pos):=λenv fl up fr σ v s₁ e A ρ s Q E r a F q=>by
 dsimp only [cX] at e;induction kd using vZ with
 |none=>obtain ⟨rfl,rfl⟩:=aK e;exact wpAny_Constant_none (q.same F rfl)
 |bool b=>obtain ⟨rfl,rfl⟩:=aK e;exact wpAny_Constant_bool (q.same F rfl)
 |int i=>obtain ⟨rfl,rfl⟩:=aK e;exact wpAny_Constant_int (q.toks F ⟨_,rfl⟩)
 |str x=>obtain ⟨rfl,rfl⟩:=aK e;exact xc (q.toks F ⟨_,rfl⟩)
 |_=>exact nn e
theorem DD(H:ej c B):dP B c k (.Name x pos):=λenv fl up fr σ v s₁ e A ρ s Q E r a F q=>by
 refine d7 (CF (A:=A) (E:=E) (pos:=pos) H.K F e) λh g=>?_;subst h;exact g λy hy=>q.same F hy
theorem Ts{l r:au}{op:yq}(H:ej c B)(hl:dP B c k l)(hr:dP B c k r):dP B c k (.BinOp l op r pos):=λenv fl up fr σ v s₁ e A ρ s Q E rm a F q=>by
 refine bQ e λx s_2 h1 e1=>?_;refine bQ e1 λy s_3 h2 e2=>?_;refine wpAny_BinOp (hl env fl up fr σ x s_2 h1 A ρ s _ E rm a F λρ_1 t_1 vx st F_1 hx=>hr env fl up s_2.fr s_2.os y s_3 h2 A ρ_1 t_1 _ E rm a F_1 λρ_2 t_2 vy st' F_2 hy=>?_);exact Tj F_2 H.aj e2 (hx.ext st'.ext') hy λρ_3 t_3 z st'' F_3 hz=>q ρ_3 t_3 z ((st.trans st').trans st'') F_3 hz
theorem Tt{l r:au}{op:CmpOp}(H:ej c B)(hl:dP B c k l)(hr:dP B c k r):dP B c k (.Compare l [op] [r] pos):=λenv fl up fr σ v s₁ e A ρ s Q E rm a F q=>by
 dsimp only [cX] at e;split at e
 ·exact nn e
 ·rename_i hm
  refine bQ e λx s_2 h1 e1=>?_;refine bQ e1 λy s_3 h2 e2=>?_;refine wpAny_Compare1 (hl env fl up fr σ x s_2 h1 A ρ s _ E rm a F λρ_1 t_1 vx st F_1 hx=>hr env fl up s_2.fr s_2.os y s_3 h2 A ρ_1 t_1 _ E rm a F_1 λρ_2 t_2 vy st' F_2 hy=>?_) (by simpa using hm);exact Mb rm F_2 H.aj e2 (hx.ext st'.ext') hy λρ_3 t_3 z st'' F_3 hz=>q ρ_3 t_3 z ((st.trans st').trans st'') F_3 hz
theorem Tu{x:au}(hx:dP B c k x):dP B c k (.UnaryOp .USub x pos):=λenv fl up fr σ v s₁ e A ρ s Q E rm a F q=>by
 refine bQ e λw s_2 h1 e1=>?_;refine wpAny_UnaryOp (hx env fl up fr σ _ _ h1 A ρ s _ E rm a F λρ_1 t_1 vx st F_1 hv=>?_);refine Du e1 hv λi t h e2=>?_;subst h;obtain ⟨rfl,rfl⟩:=aK e2;exact neg_int (q ρ_1 _ _ (st.trans Step.toks) (F_1.toks _) ⟨_,rfl⟩)
theorem VW{x y:au}(H:ej c B)(hx:dP B c k x)(hy:dP B c k y):dP B c k (.BoolOp .Or [x,y] pos):=λenv fl up fr σ v s₁ e A ρ s Q E rm a F q=>by
 refine bQ e λw s_2 h1 e1=>?_;refine bQ e1 λb s_3 h2 e2=>?_;refine wpAny_Or2 (hx env fl up fr σ w s_2 h1 A ρ s _ E rm a F λρ_1 t_1 vx st F_1 hv=>AO F_1 H.aj h2 hv λρ_2 t_2 st' F_2=>?_);induction b using cG with
 |true=>obtain ⟨rfl,rfl⟩:=aK e2;exact q ρ_2 t_2 vx (st.trans st') F_2 (hv.ext st'.ext')
 |false=>exact hy env fl up s_3.fr s_3.os v s₁ e2 A ρ_2 t_2 _ E rm a F_2 λρ_3 t_3 z st'' F_3 hz=>q ρ_3 t_3 z ((st.trans st').trans st'') F_3 hz
theorem Mw{t b o:au}(ht:o7 B c k t)(hb:dP B c k b)(ho:dP B c k o):dP B c k (.IfExp t b o pos):=λenv fl up fr σ v s₁ e A ρ s Q E rm a F q=>by
 refine bQ e λw s_2 h1 e1=>?_;refine wpAny_IfExp (ht env fl up fr σ w s_2 h1 A ρ s _ E rm a F λρ_1 t_1 st F_1=>?_);induction w using cG with
 |true=>exact hb env fl up s_2.fr s_2.os v s₁ e1 A ρ_1 t_1 _ E rm a F_1 λρ_3 t_3 z st'' F_3 hz=>q ρ_3 t_3 z (st.trans st'') F_3 hz
 |false=>exact ho env fl up s_2.fr s_2.os v s₁ e1 A ρ_1 t_1 _ E rm a F_1 λρ_3 t_3 z st'' F_3 hz=>q ρ_3 t_3 z (st.trans st'') F_3 hz
theorem PH{es:List au}(h:CM B c k es):dP B c k (.List es pos):=λenv fl up fr σ v s₁ e A ρ s Q E rm a F q=>by
 refine bQ e λws s_2 h1 e1=>?_;refine cW (eQ e1) λhz q'1 q'2=>?_;obtain rfl:=q'1;obtain rfl:=q'2;have hz:=iK (show decide _=ao from hz);refine wpAny_List (h env fl up fr σ ws s_2 pos h1 A ρ s _ E rm a F λρ_1 t_1 xs st F_1 hx=>?_);have hl:=hx.length;refine ⟨by show _<=2^24;exact Pa hl hz rfl,?_⟩;refine cW (F_1.alloc (o:=.list ws) (r:={cls:=.type "list",data:=.seq xs.toArray}) ⟨xs.toArray,0,rfl,by simpa using hx,by simp;exact Pa hl hz rfl⟩ t_1.toks) λa1 a2 a3=>?_;exact q _ _ _ (st.trans a1) a2 a3
theorem Mx{es:List au}(h:CM B c k es):dP B c k (.Tuple es n pos):=λenv fl up fr σ v s₁ e A ρ s Q E rm a F q=>by
 refine bQ e λws s_2 h1 e1=>?_;refine cW (eQ e1) λhz q'3 q'4=>?_;obtain rfl:=q'3;obtain rfl:=q'4;have hz:=iK (show decide _=ao from hz);refine wpAny_Tuple (h env fl up fr σ ws s_2 pos h1 A ρ s _ E rm a F λρ_1 t_1 xs st F_1 hx=>?_);have hl:=hx.length;refine ⟨by show _<=2^24;exact Pa hl hz rfl,?_⟩;refine cW (F_1.alloc (o:=.tuple ws) (r:={cls:=.type "tuple",data:=.seq xs.toArray}) ⟨xs.toArray,0,rfl,by simpa using hx,by simp;exact Pa hl hz rfl⟩ t_1.toks) λa1 a2 a3=>?_;exact q _ _ _ (st.trans a1) a2 a3
theorem Kq{p:Pos}(h:dP B c k e):dP B c k (.NamedExpr (.Name x p) e pos):=λenv fl up fr σ v s₁ ev A ρ s Q E rm a F q=>by
 refine bQ ev λw s_2 h1 e1=>?_;refine bQ e1 λu s_3 h2 e2=>?_;obtain ⟨rfl,rfl⟩:=aK e2;refine wpAny_NamedExpr (h env fl up fr σ _ s_2 h1 A ρ s _ E rm a F λρ_1 t_1 vx st F_1 hv=>?_);obtain ⟨rfl,g⟩:=EX (B:=B) (k:=k) (env:=env) (fl:=fl) (up:=up) (fr:=s_2.fr) (σ:=s_2.os) (Pre:=λρ=>cB ρ v vx) (val:=vx) h2 (λρ h=>h);refine aB (eD (wpAny_bindName (g A ρ_1 t_1 _ E rm a F_1 hv λρ_2 t_2 _ st' F_2 _=>q ρ_2 t_2 vx (st.trans st') F_2 (hv.ext st'.ext'))))
end
section
variable{k:Lv}
theorem Tv{x y:au}(hx:o7 B c k x)(hy:o7 B c k y):o7 B c k (.BoolOp .And [x,y] pos):=λenv fl up fr σ b s₁ e A ρ s Q E rm a F q=>by
 refine bQ e λw s_2 h1 e1=>?_;refine v3 (tK (hx env fl up fr σ w s_2 h1 A ρ s _ E rm a F λρ_1 t_1 st F_1=>?_));induction w using cG with
 |false=>obtain ⟨rfl,rfl⟩:=aK e1;exact q ρ_1 t_1 st F_1
 |true=>
  refine tK (hy env fl up s_2.fr s_2.os b s₁ e1 A ρ_1 t_1 _ E rm a F_1 λρ_3 t_3 st'' F_3=>?_);induction b using cG with
  |true=>exact wpAny_allTrue_And_nil (q ρ_3 t_3 (st.trans st'') F_3)
  |false=>exact q ρ_3 t_3 (st.trans st'') F_3
theorem VX{x y:au}(hx:o7 B c k x)(hy:o7 B c k y):o7 B c k (.BoolOp .Or [x,y] pos):=λenv fl up fr σ b s₁ e A ρ s Q E rm a F q=>by
 refine bQ e λw s_2 h1 e1=>?_;refine v3 (ue (hx env fl up fr σ w s_2 h1 A ρ s _ E rm a F λρ_1 t_1 st F_1=>?_));induction w using cG with
 |true=>obtain ⟨rfl,rfl⟩:=aK e1;exact q ρ_1 t_1 st F_1
 |false=>
  refine ue (hy env fl up s_2.fr s_2.os b s₁ e1 A ρ_1 t_1 _ E rm a F_1 λρ_3 t_3 st'' F_3=>?_);induction b using cG with
  |true=>exact q ρ_3 t_3 (st.trans st'') F_3
  |false=>exact wpAny_allTrue_Or_nil (q ρ_3 t_3 (st.trans st'') F_3)
theorem Tw{l r:au}{op:CmpOp}(H:ej c B)(hl:dP B c k l)(hr:dP B c k r):o7 B c k (.Compare l [op] [r] pos):=λenv fl up fr σ b s₁ e A ρ s Q E rm a F q=>by
 refine bQ e λw s_2 h1 e1=>?_;dsimp only [cX] at h1;split at h1
 ·exact nn h1
 ·rename_i hm
  refine bQ h1 λx s_3 h2 e2=>?_;refine bQ e2 λy s_4 h3 e3=>?_;refine wpAny_isTrue_Compare1 (hl env fl up fr σ x s_3 h2 A ρ s _ E rm a F λρ_1 t_1 vx st F_1 hx=>hr env fl up s_3.fr s_3.os y s_4 h3 A ρ_1 t_1 _ E rm a F_1 λρ_2 t_2 vy st' F_2 hy=>?_) (by simpa using hm);exact Mb rm F_2 H.aj e3 (hx.ext st'.ext') hy λρ_3 t_3 z st'' F_3 hz=>AO F_3 H.aj e1 hz λρ_4 t_4 my F_4=>q ρ_4 t_4 (((st.trans st').trans st'').trans my) F_4
noncomputable def CO(e:au):Bool:= !(il e.ctorIdx 3||il e.ctorIdx 0||il e.ctorIdx 5||il e.ctorIdx 15)
theorem My(H:ej c B)(hp:CO e=ao)(h:dP B c k e):o7 B c k e:=λenv fl up fr σ b s₁ ev A ρ s Q E rm a F q=>by
 have e':(do cP c (←cX c e up.sc up.vals):M Bool) up.fz ⟨fr,σ⟩=af (b,s₁):=by
  induction e using bg<;>first|exact ev|injection hp
 refine bQ e' λw s_2 h1 e1=>?_;refine wpAny_isTrue_value (h env fl up fr σ w s_2 h1 A ρ s _ E rm a F λρ_1 t_1 vx st F_1 hx=>AO F_1 H.aj e1 hx λρ_2 t_2 st' F_2=>q ρ_2 t_2 (st.trans st') F_2) ?_;induction e using bg<;>first|rfl|injection hp
theorem s7{o:au}{a:Str}{m:Sem ay}(h:baseOk o=ao):nk o a env m=m:=by
 induction o using bg with
 |Call g as ks p=>
  induction g using bg with
  |Name x q=>
   induction as using aC with
   |nil=>induction ks using aC with
    |nil=>injection h
    |cons _ _=>rfl
   |cons _ _=>rfl
  |_=>rfl
 |_=>rfl
theorem PI{o:au}{a:Str}(H:ej c B)(ho:dP B c k o):dP B c k (.Attribute o a pos):=λenv fl up fr σ v s₁ e A ρ s Q E rm fa F q=>by
 dsimp only [cX] at e;split at e
 ·exact nn e
 ·rename_i hb
  refine bQ e λw s_2 h1 e1=>?_;show wpAny _ A (nk o a env (eval o env)>>=_) Q E s;refine (s7 (by simpa using hb))▸ ?_;refine aB (ho env fl up fr σ w s_2 h1 A ρ s _ E rm fa F λρ_1 t_1 vx st F_1 hx=>aB (eD (aB (dZ ?_))));exact IY F_1 H e1 hx λρ_2 t_2 z st' F_2 hz=>aB (vk (bF (q ρ_2 t_2 z (st.trans st') F_2 hz)))
theorem Fg{value slice:au}{o i:ay}(h:zT (model B.pr B.w) A o i Q E s):
  wpAny (model B.pr B.w) A (getitemInPython o>>=λb=>subscripted slice b o i>>=λr=>letTemporaryGo value o r>>=λ_=>aA r) Q E s:=by
 refine ck h λT id hl hT hg=>?_;refine (getitemInPython_of_ne hT.not_modules)▸ ?_;have fin:∀vs,wpAny (model B.pr B.w) A (operate vs (getItem o i)) (λr s_3=>wpAny (model B.pr B.w) A (letTemporaryGo value o r>>=λ_=>aA r) Q E s_3) E s:=λvs=>
  wpAny_operating (fZ hg (λr s_3 h_3=>aB (vk (bF h_3))) λ_ _ x=>x)
 refine aB (aB (nZ hT hl (bF ?_)));refine aB ?_;have sh:(∃vs,subscripted slice bf o i=operate vs (getItem o i)):=by
  clear fin h hT hl hg;induction slice using bg with
  |Slice l u st p=>induction st using aw<;>exact ⟨_,rfl⟩
  |_=>exact ⟨_,rfl⟩
 refine el sh λvs e=>?_;refine e▸ ?_;exact fin vs
end
section
variable{k:Lv}
noncomputable def Fh(e:au):Bool:= !(il e.ctorIdx 26)
theorem Mz(e:au):Fh e=ao∨∃l u st p,e= .Slice l u st p:=by
 induction e using bg<;>first|exact .inl rfl|exact .inr ⟨_,_,_,_,rfl⟩
theorem Tz{o i:au}(H:ej c B)(hs:Fh i=ao)(ho:dP B c k o)(hi:dP B c k i):dP B c k (.Subscript o i pos):=λenv fl up fr σ v s₁ e A ρ s Q E rm fa F q=>by
 have e':(do let ov←cX c o up.sc up.vals;let iv←cX c i up.sc up.vals;d8 c ov iv:M V) up.fz ⟨fr,σ⟩=af (v,s₁):=by
  induction i using bg<;>first|exact e|injection hs
 refine bQ e' λw s_2 h1 e1=>?_;refine bQ e1 λy s_3 h2 e2=>?_;rw [eval_Subscript];refine aB (ho env fl up fr σ w s_2 h1 A ρ s _ E rm fa F λρ_1 t_1 vx st F_1 hx=>aB (dZ (hi env fl up s_2.fr s_2.os y s_3 h2 A ρ_1 t_1 _ E rm fa F_1 λρ_2 t_2 vy st' F_2 hy=>aB (eD ?_))));exact Fg (Pw F_2 H.aj e2 (hx.ext st'.ext') hy λρ_3 t_3 z st'' F_3 hz=>q ρ_3 t_3 z ((st.trans st').trans st'') F_3 hz)
def Ca(B:lH)(c:Cx)(k:Lv)(e:Option au):Prop:=∀(env:Env) (fl:List Env) (up:Up) (fr:eB) (σ:List O) (v:V) (s₁:eP),G0 c e up.sc up.vals up.fz ⟨fr,σ⟩=af (v,s₁)->
 ∀(A:iW) (ρ:List bk) (s:aM) (Q:ay->aM->Prop) (E:ay->aM->Prop),kF A k->A.frames=af fl->Fits B ρ σ fr up env fl s->KV B env fl up ρ s s₁.fr s₁.os v Q->wpAny (model B.pr B.w) A (evalPart e env) Q E s
theorem PJ:Ca B c k ae:=λenv fl up fr σ v s₁ e A ρ s Q E rm fa F q=>by
 dsimp only [G0] at e;obtain ⟨rfl,rfl⟩:=aK e;exact bF (q.same F rfl)
theorem PK(h:dP B c k e):Ca B c k (af e):=λenv fl up fr σ v s₁ ev A ρ s Q E rm fa F q=>by
 dsimp only [G0] at ev;exact h env fl up fr σ v s₁ ev A ρ s Q E rm fa F q
theorem MA{o:au}{l u st:Option au}{p:Pos}(H:ej c B)(ho:dP B c k o)(hl:Ca B c k l)(hu:Ca B c k u)(hs:Ca B c k st):dP B c k (.Subscript o (.Slice l u st p) pos):=λenv fl up fr σ v s₁ e A ρ s Q E rm fa F q=>by
 dsimp only [cX] at e;refine bQ e λw s_2 h1 e1=>?_;refine bQ e1 λx s_3 h2 e2=>?_;refine bQ e2 λy s_4 h3 e3=>?_;refine bQ e3 λz s_5 h4 e4=>?_;rw [eval_Subscript];refine aB (ho env fl up fr σ w s_2 h1 A ρ s _ E rm fa F λρ_1 t_1 vw gp F_1 hw=>aB (dZ (wpAny_Slice ?_)));refine hl env fl up s_2.fr s_2.os x s_3 h2 A ρ_1 t_1 _ E rm fa F_1 λρ_2 t_2 vx kC F_2 hx=>?_;refine hu env fl up s_3.fr s_3.os y s_4 h3 A ρ_2 t_2 _ E rm fa F_2 λρ_3 t_3 vy kD F_3 hy=>?_;refine hs env fl up s_4.fr s_4.os z s_5 h4 A ρ_3 t_3 _ E rm fa F_3 λρ_4 t_4 vz my F_4 hz=>?_;refine aB (eD ?_);exact Fg (Mc F_4 H.aj e4 (((hw.ext kC.ext').ext kD.ext').ext my.ext') ((hx.ext kD.ext').ext my.ext') (hy.ext my.ext') hz λρ_5 t_5 r Gm F_5 hr=>q ρ_5 t_5 r ((((gp.trans kC).trans kD).trans my).trans Gm) F_5 hr)
theorem Kr{s:Str}{p:Pos}:dP B c k (.JoinedStr [.Constant (.str s) n p] pos):=λenv fl up fr σ v s₁ e A ρ s Q E rm fa F q=>by
 dsimp only [cX] at e;obtain ⟨rfl,rfl⟩:=aK e;exact xc (env:=env) (k:=n) (pos:=p) (q.toks F ⟨_,rfl⟩)
end
section
variable{k:Lv}
theorem yQ{r:CR}{s s':eP}(h:ef r z s=af (v,s')):r= .ret v/\s'=s:=by
 induction r using CR.casesOn with
 |ret w=>obtain ⟨rfl,rfl⟩:=aK h;exact ⟨rfl,rfl⟩
 |exc i=>exact nn h
theorem PL{f:au}(hn:notAttr f=ao)(H:yP B c k)(hc:kG B c k)(hf:dP B c k f)(ha:o6 B c k args)(hstar:∀e p,args= [.Starred e p]->dP B c k e):dP B c k (.Call f args [] pos):=
 λenv fl up fr σ v s₁ e A ρ s Q E rm fa F q=>by
 have e':(do let fv←cX c f up.sc up.vals;let as←uD c args up.sc up.vals;ef (←dN c fv as):M V) up.fz ⟨fr,σ⟩=af (v,s₁):=by
  induction f using bg<;>first|exact e|injection hn
 refine bQ e' λw s_2 h1 e1=>?_;refine bQ e1 λws s_3 h2 e2=>?_;refine bQ e2 λr s_4 h3 e3=>?_;obtain ⟨rfl,rfl⟩:=yQ e3;have he:eval (.Call f args [] pos) env=(do callWith pos (←eval f env) [] (kb pos (fK args env)) []):=by
  induction f using bg<;>first|rfl|injection hn
 refine he▸ ?_;refine aB (hf env fl up fr σ w s_2 h1 A ρ s _ E rm fa F λρ_1 t_1 vf st F_1 Yu=>?_);refine jZ (P:=B.K.In) (uK H.n9 h3 Yu) (xK H.n9 ha hstar h2 rm fa F_1 λρ_2 t_2 vs st' F_2 hvs=>⟨F_2.isIn,?_⟩);exact AZ H hc h3 rm fa F_2 (Yu.ext st'.ext') hvs λρ_3 t_3 z st'' F_3 hz=>q ρ_3 t_3 z ((st.trans st').trans st'') F_3 hz
theorem CP(h:args.all notStar=ao):(kb pos (fK args env)).all (!·.1)=ao:=by
 induction args with
 |nil=>rfl
 |cons e r ih=>
  rw [iD,aS] at h;refine (kQ h.1)▸ ?_;show (ao&&(kb pos (fK r env)).all (!·.1))=ao;rw [ih h.2];rfl
theorem PM{o:au}{ap:Pos}(hn:args.all notStar=ao)(H:yP B c k)(hc:kG B c k)(ho:dP B c k o)(ha:o6 B c k args):dP B c k (.Call (.Attribute o name ap) args [] pos):=
 λenv fl up fr σ v s₁ e A ρ s Q E rm fa F q=>by
 dsimp only [cX] at e;split at e
 ·exact nn e
 ·rename_i hb
  simp only [eA,lX,not_or,yy,decide_eq_false_iff_not,yz,beq_eq_false_iff_ne,ne_eq] at hb;obtain ⟨⟨hb1,hb2⟩,hb3⟩:=hb;refine bQ e λw s_2 h1 e1=>?_;refine bQ e1 λm s_3 h2 GH=>?_;have e2:(do let as←uD c args up.sc up.vals;ef (←eK c w m as):M V) up.fz s_3=af (v,s₁):=by
   rw [hn,Bool.true_or,if_pos rfl] at GH;exact GH
  refine bQ e2 λws s_4 h3 e3=>?_;refine bQ e3 λr s_5 h4 e4=>?_;obtain ⟨rfl,rfl⟩:=yQ e4;show wpAny _ A (nk o name env (eval o env)>>=λov=>lj ap.atName>>=λ_=>pX o name ap pos env ov (args.length+0) (kb pos (fK args env)) []) Q E s;refine (s7 hb1)▸ ?_;refine aB (ho env fl up fr σ w s_2 h1 A ρ s _ E rm fa F λρ_1 t_1 vo st F_1 Il=>aB (eD ?_));have few:lY (args.length+0) (kb pos (fK args env)) []=ao:=by
   dsimp only [lY];rw [CP hn];simp;omega
  dsimp only [pX];refine few▸ ?_;refine aB (dZ ?_);show wpAny _ A (mR vo name _) _ E t_1;have hstar:∀e p,args= [.Starred e p]->dP B c k e:=λe p h=>by subst h;injection hn
  have Rr:s_3=⟨s_2.fr,s_2.os⟩:=(xH (A:=A) (E:=E) (pl:=aA ao) (Q:=λ_ _=>True) F_1 H.n9 h2 Il trivial).1;subst Rr;refine (xH (A:=A) (E:=E) F_1 H.n9 h2 Il ?_).2;refine aB (nO (a:=pos) (by dsimp only [wA];(exact (if_pos (by rw [hb2];simp)))) ?_);induction m using Me.casesOn with
  |fn f=>
   have h5:dN c (.top f) (w::ws) up.fz ⟨s_4.fr,s_4.os⟩=af (.ret v,s₁):=h4;refine jZ (P:=B.K.In) (uK (ρ':=ρ_1) H.n9 h5 rfl) (xK H.n9 ha hstar h3 rm fa F_1 λρ_2 t_2 vs st' F_2 hvs=>⟨F_2.isIn,?_⟩);exact AZ H hc h5 rm fa F_2 rfl ⟨Il.ext st'.ext',hvs⟩ λρ_3 t_3 z st'' F_3 hz=>q ρ_3 t_3 z ((st.trans st').trans st'') F_3 hz
  |bi id=>
   have GI:(if c.hd||id= "list.pop" then (do return EA (←ft c id w ws)) else fail:M CR) up.fz s_4=af (.ret v,s₁):=h4;by_cases hz:(c.hd||id= "list.pop")=ao
   ·rw [if_pos hz] at GI;refine bQ GI λu s_6 h6 e6=>?_;obtain ⟨e7,rfl⟩:=aK e6;(injection e7 with e7;subst e7);refine jZ (P:=B.K.In) (λh _=>AX h) (xK H.n9 ha hstar h3 rm fa F_1 λρ_2 t_2 vs st' F_2 hvs=>⟨F_2.isIn,?_⟩);exact CN H (by simpa using hz) rm F_2 h6 (Il.ext st'.ext') hvs λρ_3 t_3 z st'' F_3 hz=>q ρ_3 t_3 z ((st.trans st').trans st'') F_3 hz
   ·rw [if_neg hz] at GI;exact nn GI
end
section
variable{k:Lv}
theorem o8{Q:Unit->aM->Prop}(e:setC up.sc x v up.fz ⟨fr,σ⟩=af (u,s₁))(rm:kF A k)(a:A.frames=af fl)(F:Fits B ρ σ fr up env fl s)(hv:cB ρ v val)
  (q:KA B env fl up ρ s s₁.fr s₁.os () Q):wpAny (model B.pr B.w) A (storeName env x val) Q E s:=by
 obtain ⟨rfl,g⟩:=EX (B:=B) (k:=k) (env:=env) (fl:=fl) (up:=up) (fr:=fr) (σ:=σ) (Pre:=λρ=>cB ρ v val) (val:=val) e (λρ h=>h);exact g A ρ s Q E rm a F hv λρ' s' _ st F' _=>q ρ' s' st F'
theorem wc{t:au}{st:eP}{sc:Scope}(e:rL sc (t::ts) vs z st=af (u,s₁)):∃n p v ws,t= .Name n p/\vs=v::ws/\(setC sc n v>>=λ_=>rL sc ts ws:M Unit) z st=af (u,s₁):=by
 induction vs using aC with
 |nil=>exact nn e
 |cons v ws=>exact bZ e λn w e=>lG (wM w) λp h=>⟨n,p,v,ws,h,rfl,e⟩
theorem Cb:∀(ts:List au) (vs:List V) (st:eP) (u:Unit) (s₁:eP),rL up.sc ts vs up.fz st=af (u,s₁)->(iG ts env).length=vs.length/\(iG ts env).findIdx? (·.1)=ae:=by
 intro ts;induction ts with
 |nil=>
  intro vs st u s₁ e;induction vs using aC with
  |nil=>exact ⟨rfl,rfl⟩
  |cons _ _=>exact nn e
 |cons t ts ih=>
  intro vs st u s₁ e;refine Cy (wc e) λn p v ws q'1 q'2 e=>?_;obtain rfl:=q'1;obtain rfl:=q'2;refine bQ e λu' s_2 h1 e1=>?_;obtain ⟨i1,i2⟩:=ih ws s_2 u s₁ e1;constructor
  ·show (iG ts env).length+1=_;refine i1▸ ?_;rfl
  ·show List.findIdx? _ ((bf,_)::iG ts env)=_;rw [List.findIdx?_cons,i2];rfl
theorem Fi:∀(ts:List au) (vs:List V) (xs:List ay) (fr:eB) (σ:List O) (u:Unit) (s₁:eP) (ρ:List bk) (s:aM) (Q:Unit->aM->Prop),rL up.sc ts vs up.fz ⟨fr,σ⟩=af (u,s₁)->kF A k->A.frames=af fl->
  Fits B ρ σ fr up env fl s->bM ρ vs xs->KA B env fl up ρ s s₁.fr s₁.os () Q->wpAny (model B.pr B.w) A (assignInOrder ((iG ts env).map (·.2)) xs) Q E s:=by
 intro ts;induction ts with
 |nil=>
  intro vs xs fr σ u s₁ ρ s Q e rm a F hv q;induction vs using aC with
  |nil=>
   obtain rfl:=hv.nil_inv;obtain ⟨_,rfl⟩:=aK (a:=()) e;exact wpAny_assignInOrder_none (q.same F)
  |cons _ _=>exact nn e
 |cons t ts ih=>
  intro vs xs fr σ u s₁ ρ s Q e rm a F hv q;refine Cy (wc e) λn p v ws q'3 q'4 e=>?_;obtain rfl:=q'3;obtain rfl:=q'4;refine ck hv.cons_inv λx ys q'5 hx hvs=>?_;obtain rfl:=q'5;refine bQ e λu' s_2 h1 e1=>?_;refine wpAny_assignInOrder_more (jR (o8 (k:=k) h1 rm a F hx λρ' s' st F'=>?_));exact ih ws ys s_2.fr s_2.os u s₁ ρ' s' Q e1 rm a F' (hvs.ext st.ext') λLl s'' st' zd=>q Ll s'' (st.trans st') zd
theorem Ks{t:au}{x:ay}{Q:Unit->aM->Prop}(H:ej c B)(hA:A.handled=ae)(e:IJ c up.sc t v up.fz ⟨fr,σ⟩=af (u,s₁))(rm:kF A k)(a:A.frames=af fl)(F:Fits B ρ σ fr up env fl s)(hv:cB ρ v x)
  (q:KA B env fl up ρ s s₁.fr s₁.os () Q):wpAny (model B.pr B.w) A (assign t env x) Q E s:=by
 refine eh e (λn w e=>?_) (λ_ e=>?_)
 ·refine lG (wM w) λp h=>?_;subst h;exact jR (o8 (k:=k) e rm a F hv q)
 ·refine bZ e λts w e=>?_;refine Aq (VN w) λn p h=>?_;subst h;refine objE e λob h1 e1=>?_;refine bZ e1 λxs w e1=>?_;rw [Ad w] at h1;refine xC e1 λhl e1=>?_;refine b9 (F.mG H.aj h1 hv) λp' ys m q'6 g1 g2 g3=>?_;subst q'6;refine d7 (Cb (env:=env) _ _ _ _ _ e1) λi1 i2=>?_;refine wpAny_assign_Tuple (items:=ys) hA ⟨_,g1,rfl,m,rfl⟩ (i1.trans (g2.length.trans cj)) i2 λh' hx=>?_;refine d7 (F.grown (h':=h') (λb o e=>hx b o (bP (du e)) e) s.toks) λst F'=>?_;exact Fi (k:=k) _ _ _ _ _ _ _ _ {s with heap:=h'} _ e1 rm a F' g2 λρ' s' st' zd=>q ρ' s' (st.trans st') zd
theorem Kt:∀{ifs:List au}{fr:eB}{σ:List O}{b:Bool}{s₁:eP}{ρ:List bk}{s:aM}{Q:Bool->aM->Prop},(∀e∈ifs,o7 B c k e)->Dr c ifs up.sc up.vals up.fz ⟨fr,σ⟩=af (b,s₁)->kF A k->A.frames=af fl->
  Fits B ρ σ fr up env fl s->KA B env fl up ρ s s₁.fr s₁.os b Q->wpAny (model B.pr B.w) A (AV ifs env) Q E s:=by
 have dead:∀(ifs:List au) (s:aM) (Q:Bool->aM->Prop),Q bf s->
   wpAny (model B.pr B.w) A (forIn ifs bf λc r=>if r=ao then do let ok←isTrue c env (eval c env);aA (dE ok) else aA (dE r)) Q E s:=by
  intro ifs;induction ifs with
  |nil=>intro s Q h;rw [vl];exact bF h
  |cons e r ih=>intro s Q h;rw [lq];exact aB (bF (ih s Q h))
 intro ifs;induction ifs with
 |nil=>
  intro fr σ b s₁ ρ s Q _ e rm a F q;dsimp only [Dr] at e;obtain ⟨rfl,rfl⟩:=aK e;dsimp only [AV];rw [vl];exact bF (q.same F)
 |cons t r ih=>
  intro fr σ b s₁ ρ s Q ht e rm a F q;refine bQ e λw s_2 h1 e1=>?_;dsimp only [AV];rw [lq];refine (if_pos rfl)▸ ?_;refine aB (aB (ht t (fm ..) env fl up fr σ w s_2 h1 A ρ s _ E rm a F λρ_1 t_1 st F_1=>bF ?_));induction w using cG with
  |true=>exact ih (λe he=>ht e (i8 _ he)) e1 rm a F_1 λρ_2 t_2 st' F_2=>q ρ_2 t_2 (st.trans st') F_2
  |false=>
   obtain ⟨rfl,rfl⟩:=aK e1;exact dead r t_1 Q (q ρ_1 t_1 st F_1)
theorem owned_go{t:au}{I:bk}{y:ay}{o:Obj}{Q:Unit->aM->Prop}(ho:s.heap.get? I=af o)(hp:mW o=ao)(q:Q () s):wpAny (model B.pr B.w) A (lr t (.ref I) y) Q E s:=by
 have main:wpAny (model B.pr B.w) A (do
   let (.ref r,.ref a):=((cC I:ay),y)|return ()
   let o←load r
   match o.cls,o.data with
   | .type n,.fields vs=>
    if ["enumerate","zip","dict_itemiterator","dict_reverseitemiterator","odict_iterator","itertools.zip_longest","itertools.pairwise"].contains n&&vs[0]? ==af (xd a) then
     rule "for.unpacks-the-owned-tuple"
     updateField r 0 .none
   |_,_=>aA ():Sem Unit) Q E s:=by
  induction y using iN<;>try exact bF q
  refine aB (wpAny_load ho ?_);dsimp only [mW] at hp;split
  ·rename_i n vs h1 h2
   rw [h1] at hp;simp only [lX] at hp;rw [if_neg (by refine hp▸ ?_;exact iK rfl)];exact bF q
  ·exact bF q
 induction t using bg<;>first|exact main|exact bF q
end
theorem uL(h:AF e=ao)(x:ay):qM e env x=aA x:=by
 induction e using bg<;>first|rfl|injection h
theorem ua{target iter:au}{ifs:List au}{it acc:ay}(hg:gens[d]? =af ⟨target,iter,ifs,0⟩)
  (h0:gP (model prog w) A (.compLoop (.ListComp elt gens scope pos) d it acc env) R s)
  (h:wpAny (model prog w) A (rB it) (λit' s'=>gP (model prog w) A (.compLoop (.ListComp elt gens scope pos) d it' acc env) R s') (tJ (model prog w) A env λx s'=>R (.error x) s') s):
  gP (model prog w) A (.compStart (.ListComp elt gens scope pos) d it acc env) R s:=by
 refine codeAny_of_tree ?_;show wpAny _ _ ((compStart (.ListComp elt gens scope pos) d it acc env).onRaise (λx=>do sz x env;lj theWindowsPlace)) _ _ s;refine wpAny_notedAt ?_;dsimp only [compStart];have hc:(clausesOf (.ListComp elt gens scope pos))[d]? =af ⟨target,iter,ifs,0⟩:=hg;refine hc▸ ?_;show wpAny _ _ (ask>>=_) _ _ s;refine aB (wpAny_askSetting (wpAny_ite ?_));split
 ·first
   |exact aB (bF (bF (zi rfl h0)))
   |exact bF (zi rfl h0)
 ·first
   |exact aB (wpAny_rule (aB (eD (aB (fZ h (λit' s' h'=>bF (zi rfl h')) λ_ _ x=>x)))))
   |(refine aB (wpAny_rule ?_);show wpAny _ _ (lj iter.pos>>=_) _ _ s;exact aB (eD (aB (fZ h (λit' s' h'=>bF (zi rfl h')) λ_ _ x=>x))))
theorem ba{m:M α}{f:α->M β}{s:eP}{a:α}(h:m z s=af (a,s₁)):(m>>=f) z s=f a z s₁:=by
 show (match m z s with|some (a,s')=>f a z s'|none=>ae)=_;exact (h)▸rfl
section
variable{k:Lv}
structure VY(B:lH)(c:Cx)(k:Lv)(g:iC):Prop where
 sync:g.is_async=0
 VZ:AF g.iter=ao
 ifs:∀e∈g.ifs,o7 B c k e
 iter:dP B c k g.iter
theorem PN(H:yP B c k)(hok:∀g∈gens,VY B c k g)(helt:dP B c k elt)(BI:c.hd=ao)(hA:A.handled=ae)(rm:kF A k)(a:A.frames=af fl){acc:ay}:
  ∀(rest:List iC) (d:Nat),gens.drop d=rest->∀(up:Up) (fr:eB) (σ:List O) (src:Src) (u:Unit) (s₁:eP) (ρ ρi:List bk) (s_0:aM) (I:bk) (fp:List bk) (St:Nat->pO->Prop) (R:BL->aM->Prop),
   ER c rest up.sc up.vals (cX c elt up.sc up.vals) i src up.fz ⟨fr,σ⟩=af (u,s₁)->Fits B ρ σ fr up env fl s_0->Iter B ρi src I fp St->Ext ρi ρ->St 0 s_0.heap->I∉ρ->I∉own env->B.h₀.get? I=ae->
   I∉up.kE->cB ρ (.ref i) acc->(∀ρ' s',lJ I ρ (wr up env) s_0 ρ' s'->Fits B ρ' s₁.os s₁.fr up env fl s'->R (.ok .next) s')->
   gP (model B.pr B.w) A (.compStart (.ListComp elt gens scope pos) d (.ref I) acc env) R s_0:=by
 intro rest;induction rest with
 |nil=>intro d hd up fr σ src u s₁ ρ ρi s_0 I fp St R e;dsimp only [ER] at e;exact nn e
 |cons g rest' ih=>
  intro d hd up fr σ src u s₁ ρ ρi s_0 I fp St R e F It xi O8 OE hO hB hF hacc q;obtain ⟨t,iter,ifs,as⟩:=g;have hgd:gens[d]? =af ⟨t,iter,ifs,as⟩:=by
   have:=pY (xs:=gens) (i:=d) (j:=0);rw [hd] at this;simpa using this.symm
  have hrest:gens.drop (d+1)=rest':=by
   have:=List.drop_drop (l:=gens) (i:=1) (j:=d);rw [hd] at this;simpa using this.symm
  have hgm:=hok _ (bN hgd);have has:as=0:=hgm.sync;subst has;dsimp only [ER,dk] at e;have loop:gP (model B.pr B.w) A (.compLoop (.ListComp elt gens scope pos) d (.ref I) acc env) R s_0:=by
   refine Ff hA hgd F It xi O8 OE hO hB hF (λi h y s' Q E' st hs q=>?_) (s₁:=s₁) e (λv y fr σ u s₁ ρ_1 s Q E' xρ ev F_1 hv q'=>?_) q
   ·subst hs;refine aR (It.cls i _ st) λo ho hp=>?_;exact owned_go ho hp q
   ·refine bQ ev λu1 s_2 h1 e1=>?_;refine bQ e1 λb s_3 h2 e2=>?_;refine Ks (k:=k) (up:=up.gK src.fz) H.n9 hA h1 rm a F_1 hv λρ_2 t_2 kC F_2=>?_;refine Kt (c:=c) (up:=up.gK src.fz) hgm.ifs h2 rm a F_2 λρ_3 t_3 kD F_3=>?_;induction b using cG with
    |false=>
     obtain ⟨_,rfl⟩:=aK (a:=()) e2;exact q' ρ_3 t_3 (kC.trans kD) F_3
    |true=>
     rw [if_pos rfl] at e2;refine (if_pos rfl).mpr ?_;have JJ:cB ρ_3 (.ref i) acc:=((hacc.ext xρ).ext kC.ext').ext kD.ext';dsimp only [xJ];induction rest' using aC with
     |nil=>
      have:gens[d+1]? =ae:=by
       have:=pY (xs:=gens) (i:=d+1) (j:=0);rw [hrest] at this;simpa using this.symm
      refine this▸ ?_;rw [if_pos (show ([]:List iC).isEmpty=ao from rfl)] at e2;refine bQ e2 λw s_4 h3 e3=>?_;refine objE e3 λob h4 e4=>?_;refine bZ e4 λxs hw e5=>?_;obtain rfl:=wL hw;have e6:z8 c (.ref i) [w] (up.gK src.fz).fz s_4=af (.none,s₁):=(ba h4).trans ((ba e5).trans rfl);refine helt env fl (up.gK src.fz) s_3.fr s_3.os w _ h3 A ρ_3 t_3 _ E' rm a F_3 λρ_4 t_4 x my F_4 hx=>?_;exact CL F_4 H.n9.aj e6 (JJ.ext my.ext') ⟨hx,trivial⟩ λρ_5 t_5 _ Gm F_5 _=>q' ρ_5 t_5 (((kC.trans kD).trans my).trans Gm) F_5
     |cons g' Zm=>
      have hg':gens[d+1]? =af g':=by
       have:=pY (xs:=gens) (i:=d+1) (j:=0);rw [hrest] at this;simpa using this.symm
      refine hg'▸ ?_;have UR:=hok _ (bN hg');refine ⟨UR.sync,uL UR.VZ,?_⟩;rw [if_neg (by simp)] at e2;refine bQ e2 λw s_4 h3 e3=>?_;refine bQ e3 λsrc' s_5 h4 e4=>?_;have h3':cX c g'.iter up.sc up.vals (up.gK src.fz).fz s_3=af (w,s_4):=by
       obtain ⟨t',iter',ifs',as'⟩:=g';dsimp only [AH] at h3;exact h3
      refine UR.iter env fl (up.gK src.fz) s_3.fr s_3.os w _ h3' A ρ_3 t_3 _ E' rm a F_3 λρ_4 t_4 x my F_4 hx=>?_;have hs5:s_5=⟨s_4.fr,s_4.os⟩:=(qy (A:=A) (E:=E') (Q:=λ_ _=>True) F_4 H.n9 h4 hx λ_ _ _ _ _=>trivial).1;subst hs5;refine (qy (A:=A) (E:=E') F_4 H.n9 h4 hx λo St' fp' It' Zn=>?_).2.2;refine wpAny_runOwn ?_;obtain ⟨stH,FH⟩:=F_4.hidden o t_4.toks;refine ih (d+1) hrest (up.gK src.fz) s_4.fr s_4.os src' u s₁ ρ_4 ρ_4 {t_4 with heap:=t_4.heap.push o} t_4.heap.objs.size fp' St' _ e4 FH It' (Ext.refl _) Zn ?_ ?_ F_4.rep.fresh ?_ (JJ.ext my.ext') λρ_5 t_5 Gm F_5=>?_
      ·exact λh=>absurd (F_4.rep.lt h) (aX _)
      ·exact λh=>by obtain ⟨o,ho⟩:=F_4.jK _ h;rw [lx] at ho;exact nn ho
      ·exact F_4.xD lx
      ·exact q' ρ_5 t_5 (((kC.trans kD).trans my).trans (Gm.whole rfl)) F_5
  exact ua hgd loop ((It.walks A hA).self 0 _ _ _ O8 loop)
end
noncomputable def i6(env:Env):List (Str × ir)->List (Str × bk)->List (Str × bk)
 | [],acc=>acc
 |(n,k)::r,acc=>if k== .free then i6 env r ((n,(env.cells.lookup n).getD 0)::acc) else i6 env r acc
theorem Cc(h:∀p∈scope.names,p.2= .free->∃c,env.cells.lookup p.1=af c):closureFor scope env=aA (i6 env scope.names []):=by
 have main:∀(l:List (Str × ir)) (acc:List (Str × bk)),(∀p∈l,p.2= .free->∃c,env.cells.lookup p.1=af c)->
   (forIn l acc λ(p:Str × ir) cs=>if (p.2== .free)=ao then (do let a←cellOf env p.1;aA (dE ((p.1,a)::cs))) else aA (dE cs):Sem (List (Str × bk)))=aA (i6 env l acc):=by
  intro l;induction l with
  |nil=>intro acc _;rfl
  |cons p r ih=>
   intro acc hl;obtain ⟨n,k⟩:=p;rw [lq];dsimp only [i6];by_cases hk:(k==eW)=ao
   ·obtain ⟨c,hc⟩:=hl (n,k) (fm ..) (by simpa using hk);have hc':env.cells.lookup n=af c:=hc;simp only [hk,if_true];have:cellOf env n=aA c:=by dsimp only [cellOf];exact (hc')▸rfl
    rw [this,pure_bind,pure_bind,hc'];exact ih _ λp hp=>hl p (i8 _ hp)
   ·simp only [hk,cR,if_false];rw [pure_bind];exact ih _ λp hp=>hl p (i8 _ hp)
 dsimp only [closureFor];have:=main scope.names [] h;simp only [bind_pure];exact (this).symm.symm
theorem rP:∀(l:List (Str × ir)) (acc:List (Str × bk)) (p:Str × bk),p∈i6 env l acc->p∈acc∨((p.1,eW)∈l/\p.2=(env.cells.lookup p.1).getD 0)
 | [],acc,p,h=>.inl h
 |(n,k)::r,acc,p,h=>by
  dsimp only [i6] at h;split at h
  ·rename_i hk
   rcases rP r _ p h with h|⟨h1,h2⟩
   ·rcases jJ h with rfl|h
    ·have:k= .free:=by simpa using hk
     subst this;exact .inr ⟨fm ..,rfl⟩
    ·exact .inl h
   ·exact .inr ⟨i8 _ h1,h2⟩
  ·rcases rP r _ p h with h|⟨h1,h2⟩
   ·exact .inl h
   ·exact .inr ⟨i8 _ h1,h2⟩
theorem yR:∀(l:List (Str × ir)) (acc:List (Str × bk)) (p:Str × bk),p∈acc->p∈i6 env l acc
 | [],acc,p,h=>h
 |(n,k)::r,acc,p,h=>by
  dsimp only [i6];split
  ·exact yR r _ p (i8 _ h)
  ·exact yR r _ p h
theorem yS:∀(l:List (Str × ir)) (acc:List (Str × bk)) (n:Str),(n,eW)∈l->(n,(env.cells.lookup n).getD 0)∈i6 env l acc
 |(m,k)::r,acc,n,h=>by
  dsimp only [i6];rcases jJ h with e|h
  ·obtain ⟨⟩:=e;rw [if_pos (by rfl)];exact yR r _ _ (fm ..)
  ·split
   ·exact yS r _ n h
   ·exact yS r _ n h
theorem zH{f:Str->bk}:∀{l:List (Str × bk)}{n:Str},(n,f n)∈l->(∀p∈l,p.2=f p.1)->l.lookup n=af (f n)
 |(m,a)::r,n,h,g=>by
  refine (cz).trans ?_;by_cases hm:n=m
  ·subst hm;have:=g (n,a) (fm ..);simp only at this;simp [this]
  ·have hb:(n==m)=bf:=by simpa using hm
   refine hb▸ ?_;rcases jJ h with e|h
   ·obtain ⟨⟩:=e;exact absurd rfl hm
   ·exact zH h λp hp=>g p (i8 _ hp)
theorem xM{l:List (Str × ir)}{n:Str}(h:(n,eW)∈l):(i6 env l []).lookup n=af ((env.cells.lookup n).getD 0):=
 zH (f:=λn=>(env.cells.lookup n).getD 0) (yS l [] n h) λp hp=>by
  rcases rP l [] p hp with h|h
  ·cases h
  ·exact h.2
theorem I1{inner sc:Scope}{up:eB}(h:(x,eW)∈inner.names):getF (RK inner sc fr up) x=zz sc fr up x:=by
 have main:∀l:List (Str × ir),getF (l.filterMap λp=>if p.2= .free then (zz sc fr up p.1).map λv=>(p.1,v) else ae) x=if (x,eW)∈l then zz sc fr up x else ae:=by
  intro l;induction l with
  |nil=>rfl
  |cons p r ih=>
   obtain ⟨n,k⟩:=p;refine oq▸ ?_;by_cases hk:k= .free
   ·subst hk;simp only [if_true];by_cases hn:n=x
    ·subst hn;refine (if_pos (fm ..))▸ ?_;induction hv:zz sc fr up n using aw with
     |none=>simp only [dT];rw [ih,hv];split<;>rfl
     |some v=>simp only [cU];dsimp only [getF];exact (if_pos rfl)
    ·have hiff:((x,eW)∈(n,eW)::r)↔(x,eW)∈r:=by
      constructor
      ·intro h;rcases jJ h with e|h
       ·obtain ⟨⟩:=e;exact absurd rfl hn
       ·exact h
      ·exact i8 _
     induction hv:zz sc fr up n using aw with
     |none=>simp only [dT];refine (ih).trans ?_;simp only [hiff]
     |some v=>simp only [cU];dsimp only [getF];(refine (if_neg hn).trans ?_;refine (ih).trans ?_);simp only [hiff]
   ·simp only [hk,if_false];refine (ih).trans ?_;have hiff:((x,eW)∈(n,k)::r)↔(x,eW)∈r:=by
     constructor
     ·intro h;rcases jJ h with e|h
      ·obtain ⟨⟩:=e;exact absurd rfl hk
      ·exact h
     ·exact i8 _
    simp only [hiff]
 dsimp only [RK];rw [main,if_pos h]
theorem A0{f:Str->ir->ir}:∀{l:List (Str × ir)},(l.map λ(n,k)=>(n,f n k)).lookup x=(l.lookup x).map (f x)
 | []=>rfl
 |(n,k)::r=>by
  rw [bx,cz,cz];by_cases h:x=n
  ·subst h;simp
  ·have hb:(x==n)=bf:=by simpa using h
   refine hb▸ ?_;exact A0
theorem o9:(relabel scope env).names.lookup x=(scope.names.lookup x).map λk=>if (k== .free&&env.scope.kind== .function&&env.kindOf x==af .cell) then .cell else k:=by
 dsimp only [relabel];have:=A0 (f:=λn k=>if (k== .free&&env.scope.kind== .function&&env.kindOf n==af .cell) then Cv else k) (x:=x) (l:=scope.names);refine (this).symm▸ ?_;congr 1;apply d9;intro p _;obtain ⟨n,k⟩:=p;dsimp only;split<;>rfl
theorem qz{sc:Scope}(h:wK scope sc gens=ao):scope.kind= .function/\(∀g∈gens,g.is_async=0/\AF g.iter=ao)/\(∀p∈scope.names,p.2≠ .cell)/\(∀p∈scope.names,scope.names.lookup p.1=af p.2)/\
  ∀p∈scope.names,p.2= .free->sc.names.lookup p.1=af .cell∨sc.names.lookup p.1=af .free:=by
 dsimp only [wK] at h;simp only [aS,bK,eA,decide_eq_true_eq] at h;obtain ⟨⟨h1,h2⟩,h3⟩:=h;exact ⟨h1,h2,λp hp=>(h3 p hp).1.1,λp hp=>(h3 p hp).1.2,λp hp hf=>by
  rcases (h3 p hp).2 with (h|h)|h
  ·exact absurd hf h
  ·exact .inl h
  ·exact .inr h⟩
structure Hid(B:lH)(ρ:List bk)(env:Env)(up:Up)(C:bk):Prop where
 ρ:C∉ρ
 own:C∉own env
 base:B.h₀.get? C=ae
 fr:C∉up.kE
section
variable{k:Lv}
theorem Fits.o4(F:Fits B ρ σ fr up env fl s)(ha:s.heap.objs.size<=a):Hid B ρ env up a:=by
 have ae:s.heap.get? a=ae:=by
  induction q:s.heap.get? a using aw with
  |none=>rfl
  |some o=>exact absurd (du q) (cD.mpr ha)
 refine ⟨λh=>absurd (F.rep.lt h) (cD.mpr ha),λh=>?_,F.rep.Pr ha,F.xD ae⟩;obtain ⟨o,ho⟩:=F.jK a h;rw [ae] at ho;exact nn ho
theorem oQ{l:List (Str × ir)}(hl:∀p∈l,p.2= .free->∃c,env.cells.lookup p.1=af c)(h:a∈(i6 env l []).map (·.2)):∃n,(n,eW)∈l/\env.cells.lookup n=af a:=by
 refine aR (aT.mp h) λp hp q'1=>?_;obtain rfl:=q'1;rcases rP l [] p hp with h|⟨h1,h2⟩
 ·cases h
 ·obtain ⟨c,hc⟩:=hl _ h1 rfl;simp only at hc;refine ⟨p.1,h1,?_⟩;rw [h2,hc];rfl
theorem Fits.comp{C:bk}(F:Fits B ρ σ fr up env fl s)(hok:wK scope up.sc gens=ao)(hC:s.heap.objs.size<=C)(hk:∀b o,s.heap.get? b=af o->s'.heap.get? b=af o)
  (hn:s'.heap.Ns C m) (hm:∀x,m x=ae) (hg:s'.gens=s.gens):
  Fits B ρ σ [] ⟨scope,RK scope up.sc fr up.vals,up.fz,up.kE⟩ {newEnv scope C env.globals (i6 env scope.names []) env.qual ae .none (af env) builtinsNs with scope:=relabel scope env} fl s':=by
 refine iJ (qz hok) λk1 k2 k3 k4 k5=>?_;have o4:=F.o4 hC;have cells:∀p∈scope.names,p.2= .free->∃c,env.cells.lookup p.1=af c:=λp hp hf=>by
  rcases k5 p hp hf with h|h
  ·refine d7 (F.mv.G9 p.1 h) λ_ r'2=>?_;refine gj r'2 λc _ _ h1 _=>?_;exact ⟨c,h1⟩
  ·refine d7 (F.mv.EU p.1 h) λ_ r'3=>?_;refine gj r'3 λc _ _ h1 _=>?_;exact ⟨c,h1⟩
 have look:∀n,(n,eW)∈scope.names->∃c,env.cells.lookup n=af c/\(i6 env scope.names []).lookup n=af c:=λn hn'=>by
  obtain ⟨c,hc⟩:=cells _ hn' rfl;refine ⟨c,hc,?_⟩;rw [xM hn',hc];rfl
 have Gn:∀n c,(i6 env scope.names []).lookup n=af c->env.cells.lookup n=af c:=λn c h=>by
  rcases rP scope.names [] (n,c) (mem_of_lookup h) with h'|⟨h1,h2⟩
  ·cases h'
  ·refine aR (look n h1) λc' hc' hl=>?_;rw [h] at hl;(injection hl with hl;subst hl);exact hc'
 have BJ:∀a,a∈(i6 env scope.names []).map (·.2)->a∈Internal.own env:=λa ha=>by
  refine aR (oQ cells ha) λn _ h2=>?_;exact i8 _ (mem_lookup h2)
 have Zo:C∉(i6 env scope.names []).map (·.2):=λh=>o4.own (BJ C h);refine ⟨F.rep.other λb o e _=>hk b o e,⟨⟨m,hn,λx hx=>⟨?_,?_⟩⟩,λx hx=>?_,λx hx=>?_,λx hx=>?_⟩,⟨?_,F.ok.glob,F.ok.blt⟩,λa ha=>?_,λa ha=>?_,λa ha=>?_,Zo,λx y c h1 h2=>?_,hg.trans F.gens,F.L8,λL hL=>?_⟩
 ·show (relabel scope env).names.lookup x=_;rw [o9,show scope.names.lookup x=af .local from hx];rfl
 ·exact trivial
 ·exact absurd rfl (k3 _ (mem_of_lookup (show scope.names.lookup x=af .cell from hx)))
 ·have hx':scope.names.lookup x=af .free:=hx;have hmem:=mem_of_lookup hx';refine aR (look x hmem) λc hc hl=>?_;refine ⟨?_,?_⟩
  ·show (relabel scope env).names.lookup x=_∨(relabel scope env).names.lookup x=_;rw [o9,hx'];simp only [cU];split
   ·exact .inl rfl
   ·exact .inr rfl
  ·show∃(c:bk) (o:Obj) (v:Option ay),(i6 env scope.names []).lookup x=af c/\s'.heap.get? c=af o/\o.data= .cell v/\mu ρ (getF (RK scope up.sc fr up.vals) x) v;refine (I1 hmem)▸ ?_;unfold zz;rcases k5 _ hmem rfl with h|h
   ·refine d7 (F.mv.G9 x h) λ_ r'4=>?_;refine b9 r'4 λc' o v g1 g2 g3 g4=>?_;rw [hc] at g1;(injection g1 with g1;subst g1);rw [show up.sc.names.lookup x=af .cell from h];exact ⟨c,o,v,hl,hk _ _ g2,g3,g4⟩
   ·refine d7 (F.mv.EU x h) λ_ r'5=>?_;refine b9 r'5 λc' o v g1 g2 g3 g4=>?_;rw [hc] at g1;(injection g1 with g1;subst g1);rw [show up.sc.names.lookup x=af .free from h];exact ⟨c,o,v,hl,hk _ _ g2,g3,g4⟩
 ·show (relabel scope env).names.lookup x=_;rw [o9,show scope.names.lookup x=af .globalImplicit from hx];rfl
 ·show (relabel scope env).kind=_;exact k1
 ·rcases jJ ha with rfl|ha
  ·exact o4.ρ
  ·exact F.rM a (BJ a ha)
 ·rcases jJ ha with rfl|ha
  ·exact o4.base
  ·exact F.oW a (BJ a ha)
 ·rcases jJ ha with rfl|ha
  ·refine gj hn λo _ _ h _=>?_;exact ⟨o,h⟩
  ·obtain ⟨o,h⟩:=F.jK a (BJ a ha);exact ⟨o,hk a o h⟩
 ·exact F.oY x y c (Gn x c h1) (Gn y c h2)
 ·refine iA (F.Dt L hL) λh3 h4 h5 r'6=>?_;refine gj r'6 λo es n h6 h7=>?_;refine ⟨h3,h4,λh=>h5 ?_,o,es,n,hk L o h6,h7⟩;refine aR (oQ cells h) λx _ h2=>?_;exact mem_lookup h2
theorem Fits.back{C I:bk}{cenv:Env}{W:Wr}{ρ_1:List bk}{s₁:aM}{vals:eB}(F:Fits B ρ σ fr up env fl s)(hok:wK scope up.sc gens=ao)(hC:s.heap.objs.size<=C)(hI:s.heap.objs.size<=I)
  (hk:∀b o,s.heap.get? b=af o->s₁.heap.get? b=af o) (hρ:∃m,ρ_1=ρ++m/\∀a∈m,s.heap.objs.size<=a) (US:own cenv=C::(i6 env scope.names []).map (·.2)) (hcl:cenv.cells=i6 env scope.names []) (hW:W=wr ⟨scope,vals,up.fz,up.kE⟩ cenv)
  (x:lJ I ρ_1 W s₁ ρ' s') (F':Fits B ρ' σ' et ⟨scope,RK scope up.sc fr up.vals,up.fz,up.kE⟩ cenv fl s') (hg:s₁.gens=s.gens/\s₁.os=s.os/\s₁.drawn=s.drawn):
  Step ρ (wr up env) s ρ' s'/\Fits B ρ' σ' fr up env fl s':=by
 subst hW;refine iJ (qz hok) λk1 k2 k3 k4 k5=>?_;have ae:∀a,s.heap.objs.size<=a->s.heap.get? a=ae:=λa ha=>by
  induction q:s.heap.get? a using aw with
  |none=>rfl
  |some o=>exact absurd (du q) (cD.mpr ha)
 have ne:∀a b o,s.heap.objs.size<=a->s.heap.get? b=af o->b≠a:=λa b o ha h e=>by subst e;rw [ae _ ha] at h;exact nn h
 have cells:∀p∈scope.names,p.2= .free->∃c,env.cells.lookup p.1=af c:=λp hp hf=>by
  rcases k5 p hp hf with h|h
  ·refine d7 (F.mv.G9 p.1 h) λ_ r'7=>?_;refine gj r'7 λc _ _ h1 _=>?_;exact ⟨c,h1⟩
  ·refine d7 (F.mv.EU p.1 h) λ_ r'8=>?_;refine gj r'8 λc _ _ h1 _=>?_;exact ⟨c,h1⟩
 have BJ:∀a,a∈(i6 env scope.names []).map (·.2)->a∈Internal.own env:=λa ha=>by
  refine aR (oQ cells ha) λn _ h2=>?_;exact i8 _ (mem_lookup h2)
 refine aR hρ λm e hm=>?_;refine aR x.ext λm' e' hm'=>?_;have UT:∀b o,s.heap.get? b=af o->b∉ρ->b∉ρ_1:=λb o hb h1 h2=>by
  rw [e] at h2;rcases aG.mp h2 with h|h
  ·exact h1 h
  ·exact ne _ _ _ (hm b h) hb rfl
 have kept:∀b o,s.heap.get? b=af o->(b∉ρ∨∃i∈up.fz,ρ[i]? =af b)->b∉(i6 env scope.names []).map (·.2)->b∉up.kE->s'.heap.get? b=af o:=λb o hb h1 h2 h3=>by
  refine x.keep b o (ne I b o hI hb) (hk b o hb) ?_ ?_
  ·rcases h1 with h1|⟨i,hi,h1⟩
   ·exact .inl (UT b o hb h1)
   ·exact .inr ⟨i,hi,Ext.at ⟨m,e⟩ h1⟩
  ·show b∉own cenv++up.kE;refine US▸ ?_;intro h;rcases aG.mp h with h|h
   rotate_left
   ·exact h3 h
   rcases jJ h with h|h
   ·exact ne C b o hC hb h
   ·exact h2 h
 have st:Step ρ (wr up env) s ρ' s':=by
  refine ⟨⟨m++m',by rw [e',e,aQ],λa ha=>?_⟩,λb o hb=>x.live b o (ne I b o hI hb) (hk b o hb),λb o hb h1 h2=>kept b o hb h1 (λh=>h2 (cf _ (BJ b h))) λh=>h2 (cI _ h),λb hb hl o e=>x.wN b hb (λh=>?_) (ne I b o hI e) o (hk b o e),x.gens.trans hg.1,x.os.trans hg.2.1,x.drawn.trans hg.2.2⟩
  ·rcases aG.mp ha with ha|ha
   ·exact ae a (hm a ha)
   ·induction q:s.heap.get? a using aw with
    |none=>rfl
    |some o=>have:=hk a o q;rw [hm' a ha] at this;exact nn this
  ·have h':b∈own cenv:=h;rw [US] at h';rcases jJ h' with h|h
   ·exact ne C b o hC e h
   ·exact hl (BJ b h)
 have cell:∀y c o v (w:Option V),env.cells.lookup y=af c->s.heap.get? c=af o->o.data= .cell v->mu ρ w v->(up.sc.names.lookup y=af .cell/\w=getF fr y∨up.sc.names.lookup y=af .free/\w=getF up.vals y)->
   ∃(c:bk) (o:Obj) (v:Option ay),env.cells.lookup y=af c/\s'.heap.get? c=af o/\o.data= .cell v/\mu ρ' w v:=λy c o v w h1 h2 h3 h4 h5=>by
  by_cases hin:c∈(i6 env scope.names []).map (·.2)
  ·refine aR (oQ cells hin) λn hn1 hn2=>?_;have:n=y:=F.oY n y c hn2 h1;subst this;refine d7 (F'.mv.EU n (k4 _ hn1)) λ_ r'9=>?_;refine b9 r'9 λc' o' v' g1 g2 g3 g4=>?_;rw [hcl,xM hn1,hn2] at g1;(injection g1 with g1;subst g1);refine ⟨c,o',v',h1,g2,g3,?_⟩;have JH:mu ρ' (getF (RK scope up.sc fr up.vals) n) v':=g4;rw [I1 hn1] at JH;unfold zz at JH;rcases h5 with ⟨h5,rfl⟩|⟨h5,rfl⟩
   ·rw [h5] at JH;exact JH
   ·rw [h5] at JH;exact JH
  ·exact ⟨c,o,v,h1,kept c o h2 (.inl (F.rM c (i8 _ (mem_lookup h1)))) hin (λh=>(F.Dt c h).2.2.1 (mem_lookup h1)),h3,h4.ext st.ext'⟩
 refine ⟨st,F.step st F'.rep ⟨?_,λy hy=>?_,λy hy=>?_,F.mv.OZ⟩⟩
 ·refine aR F.mv.loc λmm q'10 OF=>?_;obtain ⟨o,es,n,h1,h2,h3⟩:=q'10;have nin:env.locals∉(i6 env scope.names []).map (·.2):=λh=>by
   refine aR (oQ cells h) λn' _ hn2=>?_;exact F.mF (mem_lookup hn2)
  by_cases hfr:env.locals∈up.kE
  ·refine aR (x.wN _ hfr (λh=>by
    have h':env.locals∈own cenv:=h;rw [US] at h';rcases jJ h' with h|h
    ·exact ne C _ o hC h1 h
    ·exact nin h) (ne I _ o hI h1) o (hk _ o h1)) λo' Xc d''=>?_
   exact ⟨mm,⟨o',es,n,Xc,d''.trans h2,h3⟩,λy hy=>⟨(OF y hy).1,(OF y hy).2.ext st.ext'⟩⟩
  ·exact ⟨mm,⟨o,es,n,kept _ _ h1 (.inl (F.rM _ (fm ..))) nin hfr,h2,h3⟩,λy hy=>⟨(OF y hy).1,(OF y hy).2.ext st.ext'⟩⟩
 ·refine d7 (F.mv.G9 y hy) λk' r'11=>?_;refine b9 r'11 λc o v h1 h2 h3 h4=>?_;exact ⟨k',cell y c o v _ h1 h2 h3 h4 (.inl ⟨hy,rfl⟩)⟩
 ·refine d7 (F.mv.EU y hy) λk' r'12=>?_;refine b9 r'12 λc o v h1 h2 h3 h4=>?_;exact ⟨k',cell y c o v _ h1 h2 h3 h4 (.inr ⟨hy,rfl⟩)⟩
end
section
variable{k:Lv}
theorem I2{p:Pos}{use:Option (ay->Sem Unit)}(H:yP B c k)(hok:∀g∈gens,(∀e∈g.ifs,o7 B c k e)/\dP B c k g.iter)(helt:dP B c k elt)
  (e:cX c (.ListComp elt gens scope pos) up.sc up.vals up.fz ⟨fr,σ⟩=af (v,s₁)) {A:iW}{ρ:List bk}{s:aM}{Q:ay->aM->Prop}{E:ay->aM->Prop}(rm:kF A k) (a:A.frames=af fl) (F:Fits B ρ σ fr up env fl s)
  (post:∀ρ' s' acc C m,Step ρ (wr up env) s ρ' s'->Fits B ρ' s₁.os s₁.fr up env fl s'->cB ρ' v acc->Hid B ρ' env up C->s'.heap.Ns C m->s.heap.get? C=ae->compPost (model B.pr B.w) A E use Q acc C (.ok .next) s'):
  wpAny (model B.pr B.w) A (comprehension (.ListComp elt gens scope pos) scope env p (newList []) bf (firstIter gens env) use) Q E s:=by
 dsimp only [cX] at e;split at e
 ·exact nn e
 ·rename_i hc0
  have hc:wK scope up.sc gens=ao:=by simpa using hc0
  refine iJ (qz hc) λk1 k2 k3 k4 k5=>?_;refine bQ e λit s_2 h1 e1=>?_;refine bQ e1 λsrc s_3 h2 e2=>?_;refine bQ e2 λacc s_4 h3 e3=>?_;refine cW (eQ h3) λ_ q'1 q'2=>?_;obtain rfl:=q'1;obtain rfl:=q'2;induction gens using aC with
  |nil=>dsimp only [AH] at h1;exact nn h1
  |cons g gs=>
   obtain ⟨t,iter,ifs,as⟩:=g;have Ik:cX c iter up.sc up.vals up.fz ⟨fr,σ⟩=af (it,s_2):=by dsimp only [AH] at h1;exact h1
   have hg0:=hok _ (fm ..);have hgk:=k2 _ (fm ..);have cells:∀{ρ:List bk}{σ:List O}{fr:eB}{s:aM},Fits B ρ σ fr up env fl s->∀p∈scope.names,p.2= .free->∃c,env.cells.lookup p.1=af c:=λF p hp hf=>by
    rcases k5 p hp hf with h|h
    ·refine d7 (F.mv.G9 p.1 h) λ_ r'3=>?_;refine gj r'3 λc _ _ h1 _=>?_;exact ⟨c,h1⟩
    ·refine d7 (F.mv.EU p.1 h) λ_ r'4=>?_;refine gj r'4 λc _ _ h1 _=>?_;exact ⟨c,h1⟩
   refine wpAny_comprehension_free (g:=⟨t,iter,ifs,as⟩) (gs:=gs) (cl:=i6 env scope.names []) rfl (uL hgk.2) (Cc (cells F)) k1 (λx hx hl=>by rw [k4 x hx,hl]) ?_;show wpAny (model B.pr B.w) A (eval iter env) _ E s;refine hg0.2 env fl up fr σ it s_2 Ik A ρ s _ E rm a F λρ_1 t_1 x gp F_1 hx=>?_;have Rr:s_3=⟨s_2.fr,s_2.os⟩:=(qy (A:=A) (E:=E) (Q:=λ_ _=>True) F_1 H.n9 h2 hx λ_ _ _ _ _=>trivial).1;have BI:c.hd=ao:=(qy (A:=A) (E:=E) (Q:=λ_ _=>True) F_1 H.n9 h2 hx λ_ _ _ _ _=>trivial).2.1;have hA:A.handled=ae:=rm.hd (H.hd BI);subst Rr;refine (qy (A:=A) (E:=E) F_1 H.n9 h2 hx λo St fp It O8=>?_).2.2;obtain ⟨stH,FH⟩:=F_1.hidden o t_1.toks;refine jS ?_;refine cW (FH.alloc (o:=.list []) (r:={cls:=.type "list",dict:=ae,data:=.seq ([]:List ay).toArray}) ⟨#[],0,rfl,trivial,by exact iK rfl⟩ t_1.toks) λstA FA hacc=>?_;generalize JK:({t_1 with heap:=(t_1.heap.push o).push {cls:=.type "list",dict:=ae,data:=.seq ([]:List ay).toArray},toks:=t_1.toks}:aM)=s_5 at stA FA hacc;have e5:s_5.heap.objs.size=t_1.heap.objs.size+2:=by rw [←JK,lZ,lZ]
   have Xd:∀b o',t_1.heap.get? b=af o'->s_5.heap.get? b=af o':=λb o' h=>by refine (JK).symm▸ ?_;exact aP _ (aP _ h)
   have Zp:St 0 s_5.heap:=(It.walks A hA).frame _ _ _ O8 λb _ o' h=>by refine (JK).symm▸ ?_;exact aP _ h
   have Sq:(t_1.heap.push o).objs.size=t_1.heap.objs.size+1:=lZ ..;refine wpAny_newFunctionEnv (s:=s_5) k3 (by intro y hy;simp at hy) (λh' hns hsb=>?_) k1;have OG:∀b o',s_5.heap.get? b=af o'->h'.get? b=af o':=λb o' h=>by refine (hsb.2 b (bP (du h))).trans ?_;exact aP _ h
   generalize OH:({s_5 with heap:=h',toks:=s_5.toks+([]:List (Str × ay)).length}:aM)=s_6;have h6:s_6.heap=h':=by exact congrArg _ (OH).symm
   have FC:Fits B _ _ [] _ _ fl s_6:=FA.comp hc (ax _) (λb o' h=>by refine h6▸ ?_;exact OG b o' h) (by refine h6▸ ?_;exact hns) (λx=>rfl) (by exact (OH).symm▸rfl);refine lmap e3 λr hgs e3=>?_
   ·obtain ⟨u,s_7⟩:=r;obtain ⟨⟩:=e3;have Yv:=F_1.o4 (a:=t_1.heap.objs.size) (ax _);have UU:=FA.o4 (a:=s_5.heap.objs.size) (ax _);refine PN (k:=k) (A:=A) H (λg hg=>⟨(k2 g hg).1,(k2 g hg).2,(hok g hg).1,(hok g hg).2⟩) helt BI hA rm a (⟨t,iter,ifs,as⟩::gs) 0 rfl _ [] _ src u s_7 _ ρ_1 s_6 t_1.heap.objs.size fp St _ hgs FC It ⟨[(t_1.heap.push o).objs.size],rfl⟩ ?_ ?_ ?_ Yv.base Yv.fr hacc λρ' s' st F'=>?_
    ·rw [h6];exact (It.walks A hA).frame _ _ _ Zp λb _ o' h=>OG b o' h
    ·intro h;rcases aG.mp h with h|h
     ·exact Yv.ρ h
     ·have h:=aL.mp h;rw [Sq] at h;exact absurd h (by show (t_1.heap.objs.size:Nat)≠_;exact bP (bU _))
    ·intro h;rcases jJ h with h|h
     ·have:(t_1.heap.objs.size:Nat)=s_5.heap.objs.size:=h;exact absurd (this.trans e5) (bP (sA (lR 1)))
     ·refine aR (oQ (cells F_1) h) λn _ h2=>?_;exact Yv.own (i8 _ (mem_lookup h2))
    ·obtain ⟨stB,FB⟩:=F_1.back (C:=s_5.heap.objs.size) (I:=t_1.heap.objs.size) hc (by show (t_1.heap.objs.size:Nat)<=_;exact cM e5.symm) (ax _) (λb o' h=>by refine h6▸ ?_;exact OG b o' (Xd b o' h))
      ⟨[(t_1.heap.push o).objs.size],rfl,λb hb=>by rw [aL.mp hb,Sq];exact lF _⟩ rfl rfl rfl st F' (by rw [←OH,←JK];exact ⟨rfl,rfl,rfl⟩)
     have nC:s.heap.get? s_5.heap.objs.size=ae:=by
      induction q:s.heap.get? s_5.heap.objs.size using aw with
      |none=>rfl
      |some o'=>obtain ⟨O6,h⟩:=gp.live _ _ q;exact absurd (du h) (by show¬((s_5.heap.objs.size:Nat)<_);exact Nat.not_lt_of_le (cM e5.symm))
     refine aR F'.mv.loc λmm OF _=>?_;refine post ρ' s' _ s_5.heap.objs.size mm (gp.trans stB) FB (hacc.ext st.ext') ⟨F'.rM _ (fm ..),?_,UU.base,UU.fr⟩ OF nC;exact UU.own
theorem wd{st:eP}(e:cX c (.ListComp elt gens scope pos) up.sc up.vals up.fz st=af (v,s₁)):firstAsync gens=bf:=by
 dsimp only [cX] at e;split at e
 ·exact nn e
 ·rename_i hc0
  have hc:wK scope up.sc gens=ao:=by simpa using hc0
  refine cW (qz hc) λk1 k2 _=>?_;induction gens using aC with
  |nil=>rfl
  |cons g gs=>
   have:=(k2 g (fm ..)).1;obtain ⟨t,iter,ifs,as⟩:=g;simp only at this;subst this;rfl
theorem MB{C:bk}(st:Step ρ (wr up env) s ρ' s')(F:Fits B ρ' σ fr up env fl s')(o4:Hid B ρ' env up C)(hC:s.heap.get? C=ae)(hs:ip C s'.heap h'):
  Step ρ (wr up env) s ρ' {s' with heap:=h'}/\Fits B ρ' σ fr up env fl {s' with heap:=h'}:=
 have hk:∀b o,b≠C->s'.heap.get? b=af o->h'.get? b=af o:=λb o hb h=>(hs.2 b hb).trans h
 ⟨st.iter (tk:=s'.toks) hC hk,F.iter o4.ρ o4.own o4.base o4.fr hk s'.toks⟩
theorem PO(H:yP B c k)(hok:∀g∈gens,(∀e∈g.ifs,o7 B c k e)/\dP B c k g.iter)(helt:dP B c k elt):dP B c k (.ListComp elt gens scope pos):=λenv fl up fr σ v s₁ e A ρ s Q E rm a F q=>by
 rw [eval_ListComp];have hf:=wd e;refine hf▸ ?_;refine I2 H hok helt e rm a F λρ' s' acc C m st F' hv o4 hn hC=>?_;exact ⟨m,hn,λh' hs=>let ⟨st',zd⟩:=MB st F' o4 hC hs;q ρ' _ acc st' zd hv⟩
end
section
variable{k:Lv}
theorem PQ:dP B c k (.Dict [] [] pos):=λenv fl up fr σ v s₁ e A ρ s Q E rm a F q=>by
 dsimp only [cX] at e;refine cW (eQ e) λhz q'1 q'2=>?_;obtain rfl:=q'1;obtain rfl:=q'2;refine wpAny_Dict_empty ?_;refine cW (F.alloc (o:=.dict []) (r:={cls:=.type "dict",data:=.dict #[]}) ⟨⟨#[],0,[],⟨rfl,rfl,rfl⟩,rfl,(λ_ h=>by simp at h),.nil,by exact iK rfl,trivial⟩,by simp⟩ s.toks) λa1 a2 a3=>?_;exact q _ _ _ a1 a2 a3
end
section
variable{k:Lv}
theorem MC{x:ay}{f:bk}(F:Fits B ρ σ fr up env fl s)(H:ej c B)(e:ez c o name up.fz ⟨fr,σ⟩=af (.fn f,s₁))(hx:cB ρ o x)
  (q:∀p,x= .ref p->fnIn B.K f=ao->Q (.ref s.heap.objs.size) {s with heap:=s.heap.push (methodObj (.ref f) x),toks:=s.toks+1}):wpAny (model B.pr B.w) A (oE x name ao) Q E s:=by
 refine eh e (λy w e1=>sZ e1 λid _ h _=>by injection h) (λ_ e1=>?_);refine objE e1 λob h1 e2=>?_;refine eh e2 (λy w e3=>?_) (λ_ e3=>sZ e3 λid _ h _=>by injection h);obtain rfl:=Ds w;refine AS H e3 λes f' h2 hf hz h5 h6=>?_;injection h5 with h5
 subst h5;simp only [wJ,aS,beq_iff_eq] at hz;obtain ⟨hz1,hz2,GG,Zq,hz5,hz6,hz7,hz8⟩:=hz;refine cW (mI hz1) λk1 k2 _=>?_;refine gM (F.Dv H.aj h1 hx h2) λp pa ho ds r'5=>?_;refine vC r'5 λn q'4 g1 g2 g3 g4 r'6=>?_;refine cW r'6 λJH g5 I=>?_;subst q'4;have hl:lookIn name ho=af ae:=by
  refine (yM g3 g4).trans ?_;have:=g5 name;rw [hY.mp GG] at this;rw [show tB ds name=ae from this]
 exact get_bind F.isIn I k1 (findObj_fn Zq hf hz5 hz6 (by simpa using hz7) hl) k2 (pS (fn_get (s:={s with toks:=s.toks+1}) F.isIn hz2 (handed_on rfl (q p rfl hz8))))
end
section
variable{k:Lv}
theorem MD{o:au}{ap:Pos}(hn:args.all notStar=bf)(H:yP B c k)(hc:kG B c k)(ho:dP B c k o)(ha:o6 B c k args)(hstar:∀e p,args= [.Starred e p]->dP B c k e):dP B c k (.Call (.Attribute o name ap) args [] pos):=
 λenv fl up fr σ v s₁ e A ρ s Q E rm fa F q=>by
 dsimp only [cX] at e;split at e
 ·exact nn e
 ·rename_i hb
  simp only [eA,lX,not_or,yy,decide_eq_false_iff_not,yz,beq_eq_false_iff_ne,ne_eq] at hb;obtain ⟨⟨hb1,hb2⟩,hb3⟩:=hb;refine bQ e λw s_2 h1 e1=>?_;refine bQ e1 λm s_3 h2 GH=>?_;induction m using Me.casesOn with
  |bi id=>rw [hn] at GH;exact nn GH
  |fn f=>
   have e2:(do let as←uD c args up.sc up.vals;ef (←eK c w (.fn f) as):M V) up.fz s_3=af (v,s₁):=by
    rw [show (Me.fn f).isFn=ao from rfl,Bool.or_true,if_pos rfl] at GH;exact GH
   refine bQ e2 λws s_4 h3 e3=>?_;refine bQ e3 λr s_5 h4 e4=>?_;obtain ⟨rfl,rfl⟩:=yQ e4;show wpAny _ A (nk o name env (eval o env)>>=λov=>lj ap.atName>>=λ_=>pX o name ap pos env ov (args.length+0) (kb pos (fK args env)) []) Q E s;refine (s7 hb1)▸ ?_;refine aB (ho env fl up fr σ w s_2 h1 A ρ s _ E rm fa F λρ_1 t_1 vo st F_1 Il=>aB (eD ?_));have many:lY (args.length+0) (kb pos (fK args env)) []=bf:=by
    dsimp only [lY];have:(kb pos (fK args env)).all (!·.1)=bf:=by
     clear h3 e2 ha hstar hb3 e3 GH e1 e;induction args with
     |nil=>injection hn
     |cons e r ih=>
      rw [iD] at hn;rcases Ah e with he|⟨y,p,rfl⟩
      ·rw [he,Bool.true_and] at hn;refine (kQ he)▸ ?_;show (ao&&(kb pos (fK r env)).all (!·.1))=bf;rw [ih hn];rfl
      ·rfl
    rw [this];rfl
   dsimp only [pX];refine many▸ ?_;refine aB (dZ ?_);show wpAny _ A (oE vo name ao>>=λf=>aA (f,[])) _ E t_1;have Rr:s_3=⟨s_2.fr,s_2.os⟩:=(xH (A:=A) (E:=E) (pl:=aA ao) (Q:=λ_ _=>True) F_1 H.n9 h2 Il trivial).1;subst Rr;refine aB (MC (A:=A) (E:=E) F_1 H.n9 h2 Il λp hp hfn=>bF ?_);subst hp;refine aB (nO (a:=pos) (by dsimp only [wA];rfl) ?_);have h5:dN c (.top f) (w::ws) up.fz ⟨s_4.fr,s_4.os⟩=af (.ret v,s₁):=h4;obtain ⟨stH,FH⟩:=F_1.hidden (methodObj (.ref f) (.ref p)) (t_1.toks+1);have Lm:=F_1.o4 (a:=t_1.heap.objs.size) (ax _);refine jZ (P:=MethP B.K t_1.heap.objs.size f (.ref p)) (keeps_M hfn) (xK H.n9 ha hstar h3 rm fa FH λρ_2 t_2 vs st' F_2 hvs=>⟨⟨?_,F_2.isIn⟩,?_⟩)
   ·exact st'.keep _ _ (dh _ rfl) (.inl Lm.ρ) λh=>(aG.mp h).elim Lm.own Lm.fr
   ·have hq2:t_2.heap.get? t_1.heap.objs.size=af (methodObj (.ref f) (.ref p)):=st'.keep _ _ (dh _ rfl) (.inl Lm.ρ) λh=>(aG.mp h).elim Lm.own Lm.fr;exact pS (method_call hq2 (AY (A:=A) (E:=E) (Q:=Q) H hc h5 rm fa F_2 ⟨Il.ext (stH.trans st').ext',hvs⟩ λρ_3 t_3 z st'' F_3 hz=>q ρ_3 t_3 z (((st.trans stH).trans st').trans st'') F_3 hz))
end
section
variable{k:Lv}
theorem kR[SizeOf α]{x:α}{l:List α}(h:x∈l):sizeOf x<sizeOf l:=uf h
theorem I3{es:List au}(h:∀x∈es,dP B c k x):CM B c k es:=by
 induction es with
 |nil=>exact PG
 |cons x r ih=>
  rcases Ah x with hx|⟨y,p,rfl⟩
  ·exact Mu hx (h x (fm ..)) (ih λy hy=>h y (i8 _ hy))
  ·intro env fl up fr σ v s₁ pos e;dsimp only [AG] at e;refine bQ e λw s_2 h1 e1=>?_;dsimp only [cX] at h1;exact nn h1
theorem Fj{es:List au}(H:ej c B)(h:∀x∈es,dP B c k x)(hs:∀e p,.Starred e p∈es->dP B c k e):o6 B c k es:=by
 induction es with
 |nil=>exact args_nil
 |cons x r ih=>
  have ihr:=ih (λy hy=>h y (i8 _ hy)) λe p hm=>hs e p (i8 _ hm);rcases Ah x with hx|⟨y,p,rfl⟩
  ·exact args_cons hx (h x (fm ..)) ihr
  ·induction r using aC with
   |nil=>exact Kp H (hs y p (fm ..))
   |cons z zs=>
    intro env fl up fr σ v s₁ pos e;dsimp only [uD] at e;refine bQ e λw s_2 h1 e1=>?_;dsimp only [cX] at h1;exact nn h1
theorem hJ(h:∀sc up z s,cX c e sc up z s=ae):dP B c k e:=λenv fl up fr σ v s₁ ev=>by rw [h] at ev;exact nn ev
theorem w11{a:Nat}(e:n=1+a):a<n:=ag (tL zU) (ar e.symm)
theorem V0{a:Nat}(e:n=1+a+b):a<n:=ag (tL zU) (ai (aF _ _) (ar e.symm))
theorem Vm{a c:Nat}(e:n=1+a+b+c):a<n:=V0 (e.trans (dC ..))
theorem RY{a c:Nat}(e:n=1+a+b+c+d):a<n:=Vm (e.trans (dC ..))
theorem w22{a:Nat}(e:n=1+a+b):b<n:=V0 (e.trans (by rw [aN 1 a b]))
theorem Vn{a c:Nat}(e:n=1+a+b+c):b<n:=Vm (e.trans (by rw [aN 1 a b]))
theorem PR{a c:Nat}(e:n=1+a+b+c+d):b<n:=Vn (e.trans (dC ..))
theorem O0{a c:Nat}(e:n=1+a+b+c+d):c<n:=PR (e.trans (by rw [aN (1+a) b c]))
def SE(B:lH)(c:Cx)(k:Lv)(e:au):Prop:=dP B c k e/\o7 B c k e
theorem PT{vs:List au}{op:PySem.BoolOp}(H:yP B c k)(h:∀x∈vs,SE B c k x):dP B c k (.BoolOp op vs pos):=by
 induction vs using aC with
 |nil=>induction op using eU<;>exact hJ λ_ _ _ _=>rfl
 |cons a r=>
  induction r using aC with
  |nil=>induction op using eU<;>exact hJ λ_ _ _ _=>rfl
  |cons b r=>
   induction r using aC with
   |cons _ _=>induction op using eU<;>exact hJ λ_ _ _ _=>rfl
   |nil=>
    have h1:=(h a (fm ..)).1;have h2:=(h b (i8 _ (fm ..))).1;clear h;induction op using eU with
    |And=>exact hJ λ_ _ _ _=>rfl
    |Or=>exact VW H.n9 h1 h2
theorem PU{l:au}{ops:List PySem.CmpOp}{rs:List au}(H:yP B c k)(hl:dP B c k l)(h:∀x∈rs,SE B c k x):dP B c k (.Compare l ops rs pos):=by
 induction ops using aC with
 |nil=>exact hJ λ_ _ _ _=>rfl
 |cons op ops=>
  induction ops using aC with
  |cons _ _=>exact hJ λ_ _ _ _=>rfl
  |nil=>
   induction rs using aC with
   |nil=>exact hJ λ_ _ _ _=>rfl
   |cons r rs=>
    induction rs using aC with
    |cons _ _=>exact hJ λ_ _ _ _=>rfl
    |nil=>exact Tt H.n9 hl (h r (fm ..)).1
theorem PV{vs:List au}:dP B c k (.JoinedStr vs pos):=by
 induction vs using aC with
 |nil=>exact hJ λ_ _ _ _=>rfl
 |cons x r=>
  induction x using bg with
  |Constant kd u p=>
   induction kd using vZ with
   |str s=>
    induction r using aC with
    |nil=>exact Kr
    |cons _ _=>exact hJ λ_ _ _ _=>rfl
   |_=>exact hJ λ_ _ _ _=>rfl
  |_=>exact hJ λ_ _ _ _=>rfl
theorem ME{ks:List (Option au)}{vs:List au}:dP B c k (.Dict ks vs pos):=by
 induction ks using aC with
 |cons _ _=>exact hJ λ_ _ _ _=>rfl
 |nil=>
  induction vs using aC with
  |nil=>exact PQ
  |cons _ _=>exact hJ λ_ _ _ _=>rfl
theorem MF{f:au}{kws:List PySem.Keyword}(H:yP B c k)(hc:kG B c k)(hf:dP B c k f)(ho:∀o n p,f= .Attribute o n p->dP B c k o)(h:∀x∈args,SE B c k x)(hst:∀x p,.Starred x p∈args->dP B c k x):dP B c k (.Call f args kws pos):=by
 induction kws using aC with
 |cons _ _=>exact hJ λ_ _ _ _=>by clear hf ho;induction f using bg<;>rfl
 |nil=>
  have ha:=Fj H.n9 (λx hx=>(h x hx).1) hst;have Gl:∀x p,args= [.Starred x p]->dP B c k x:=λx p h=>hst x p (h▸fm ..);refine vR (PF f) (λhq=>PL hq H hc hf ha Gl) λhq=>?_;refine sO hq λo name ap e=>?_;subst e;have ho:=ho o name ap rfl;clear hf;induction hns:args.all notStar using cG with
  |true=>exact PM hns H hc ho ha
  |false=>exact MD hns H hc ho ha Gl
theorem PW{o i:au}(H:yP B c k)(ho:dP B c k o)(hi:dP B c k i)(hp:∀l u st p,i= .Slice l u st p->Ca B c k l/\Ca B c k u/\Ca B c k st):dP B c k (.Subscript o i pos):=by
 rcases Mz i with hs|⟨l,u,st,p,rfl⟩
 ·exact Tz H.n9 hs ho hi
 ·have q:=hp l u st p rfl;exact MA H.n9 ho q.1 q.2.1 q.2.2
theorem TA{x:Option au}(h:∀y,x=af y->dP B c k y):Ca B c k x:=by
 induction x using aw with
 |none=>exact PJ
 |some y=>exact PK (h y rfl)
theorem TB(H:yP B c k)(hc:kG B c k)(e:au)(IH:∀x,sizeOf x<sizeOf e->SE B c k x):dP B c k e:=by
 induction e using bg with
 |Constant kd u pos=>exact Mv
 |Name x pos=>exact DD H.n9
 |NamedExpr t v pos=>
  have h:=(IH v (Vn (yA ..))).1;clear IH;induction t using bg with
  |Name x p=>exact Kq h
  |_=>exact hJ λ_ _ _ _=>rfl
 |BoolOp op vs pos=>exact PT H λx hx=>IH x (aD (kR hx) (Vn (nP ..)))
 |BinOp l op r pos=>exact Ts H.n9 (IH l (RY (n5 ..))).1 (IH r (O0 (n5 ..))).1
 |UnaryOp op x pos=>
  have h:=(IH x (Vn (PySem.Expr.UnaryOp.sizeOf_spec ..))).1;clear IH;induction op using PySem.UnaryOp.casesOn with
  |USub=>exact Tu h
  |_=>exact hJ λ_ _ _ _=>rfl
 |IfExp t b o pos=>exact Mw (IH t (RY (jA ..))).2 (IH b (PR (jA ..))).1 (IH o (O0 (jA ..))).1
 |Dict ks vs pos=>exact ME
 |List es pos=>exact PH (I3 λx hx=>(IH x (aD (kR hx) (V0 (PySem.Expr.List.sizeOf_spec ..)))).1)
 |Tuple es u pos=>exact Mx (I3 λx hx=>(IH x (aD (kR hx) (Vm (PySem.Expr.Tuple.sizeOf_spec ..)))).1)
 |Compare l ops rs pos=>exact PU H (IH l (RY (gb ..))).1 λx hx=>IH x (aD (kR hx) (O0 (gb ..)))
 |Call f args kws pos=>
  have h1:=RY (oK f args kws pos);have h2:=PR (oK f args kws pos);exact MF H hc (IH f h1).1 (λo n p q=>(IH o (aD (Vm (q▸l7 o n p)) h1)).1) (λx hx=>IH x (aD (kR hx) h2)) λx p hx=>(IH x (aD (V0 (PySem.Expr.Starred.sizeOf_spec x p)) (aD (kR hx) h2))).1
 |JoinedStr vs pos=>exact PV
 |Attribute o a pos=>exact PI H.n9 (IH o (Vm (l7 ..))).1
 |Subscript o i pos=>
  have h2:=Vn (l8 o i pos);refine PW H (IH o (Vm (l8 ..))).1 (IH i h2).1 λl u st p q=>?_;have pt:∀x:Option au,sizeOf x<sizeOf i->Ca B c k x:=λx hx=>TA λy e=>(IH y (aD (w11 (e▸Option.some.sizeOf_spec y)) (aD hx h2))).1;have sp:=q▸PySem.Expr.Slice.sizeOf_spec l u st p;exact ⟨pt l (RY sp),pt u (PR sp),pt st (O0 sp)⟩
 |ListComp elt gens scope pos=>
  refine PO H (λg hg=>?_) (IH elt (RY (mq ..))).1;induction g using PySem.Comprehension.casesOn with
  |mk t iter ifs as=>
   have h2:=aD (kR hg) (PR (mq elt gens scope pos));have sp:=xe t iter ifs as;exact ⟨λx hx=>(IH x (aD (kR hx) (aD (O0 sp) h2))).2,(IH iter (aD (PR sp) h2)).1⟩
 |_=>exact hJ λ_ _ _ _=>rfl
theorem PX(h:∀whole sc up z s,tU c e sc up whole z s=ae):o7 B c k e:=λenv fl up fr σ b s₁ e=>nn ((h ..).symm.trans e)
theorem PY{vs:List au}{op:PySem.BoolOp}(h:∀x∈vs,SE B c k x):o7 B c k (.BoolOp op vs pos):=by
 induction vs using aC with
 |nil=>induction op using eU<;>exact PX λ_ _ _ _ _=>rfl
 |cons a r=>
  induction r using aC with
  |nil=>induction op using eU<;>exact PX λ_ _ _ _ _=>rfl
  |cons b r=>
   induction r using aC with
   |cons _ _=>induction op using eU<;>exact PX λ_ _ _ _ _=>rfl
   |nil=>
    have h1:=(h a (fm ..)).2;have h2:=(h b (i8 _ (fm ..))).2;clear h;induction op using eU with
    |And=>exact Tv h1 h2
    |Or=>exact VX h1 h2
theorem PZ{l:au}{ops:List PySem.CmpOp}{rs:List au}(H:yP B c k)(hl:dP B c k l)(h:∀x∈rs,SE B c k x):o7 B c k (.Compare l ops rs pos):=by
 induction ops using aC with
 |nil=>exact PX λ_ _ _ _ _=>rfl
 |cons op ops=>
  induction ops using aC with
  |cons _ _=>exact PX λ_ _ _ _ _=>rfl
  |nil=>
   induction rs using aC with
   |nil=>exact PX λ_ _ _ _ _=>rfl
   |cons r rs=>
    induction rs using aC with
    |cons _ _=>exact PX λ_ _ _ _ _=>rfl
    |nil=>exact Tw H.n9 hl (h r (fm ..)).1
theorem TC(H:yP B c k)(e:au)(IH:∀x,sizeOf x<sizeOf e->SE B c k x)(main:dP B c k e):o7 B c k e:=by
 induction hp:CO e using cG with
 |true=>exact My H.n9 hp main
 |false=>
  clear main;induction e using bg with
  |BoolOp op vs pos=>exact PY λx hx=>IH x (aD (kR hx) (Vn (nP ..)))
  |UnaryOp op x pos=>exact PX λ_ _ _ _ _=>rfl
  |IfExp t b o pos=>exact PX λ_ _ _ _ _=>rfl
  |Compare l ops rs pos=>exact PZ H (IH l (RY (gb ..))).1 λx hx=>IH x (aD (kR hx) (O0 (gb ..)))
  |_=>injection hp
theorem A1(H:yP B c k)(hc:kG B c k):∀(n:Nat) (e:au),sizeOf e<n->SE B c k e:=by
 intro n;induction n with
 |zero=>intro e h;exact absurd h (gI _)
 |succ n ih=>
  intro e hn;have IH:∀x,sizeOf x<sizeOf e->SE B c k x:=λx hx=>ih x (ag hx (dF hn));have m:=TB H hc e IH;exact ⟨m,TC H e IH m⟩
theorem uM(H:yP B c k)(hc:kG B c k)(e:au):dP B c k e:=(A1 H hc _ e (bU _)).1
theorem MG(H:yP B c k)(hc:kG B c k)(e:au):o7 B c k e:=(A1 H hc _ e (bU _)).2
theorem Hw(H:yP B c k)(hc:kG B c k)(es:List au):o6 B c k es:=Fj H.n9 (λx _=>uM H hc x) λx _ _=>uM H hc x
end
structure I4(env:Env)(fl:List Env)(up:Up):Prop where
 fr:env.frame=af env.locals
 hd:∃outer,fl=env::outer
def DE(s_0 s:aM)(x:ay):Prop:=∃e oe vs,x= .ref e/\s_0.heap.get? e=ae/\s.heap.get? e=af oe/\oe.data= .fields vs/\vs[1]? =af .none
def MH(B:lH)(env:Env)(fl:List Env)(up:Up)(ρ:List bk)(s:aM)(et:eB)(σ':List O)(f:Fl)(Q:Flow->aM->Prop)(E:ay->aM->Prop):Prop:=match f with
 | .exc i=>∀ρ' s' x C t,Step ρ (wr up env) s ρ' s'->Fits B ρ' σ' et up env fl s'->cB ρ' (.ref i) x->DE s s' x->σ'[i]? =af (.exc C t)->E x s'
 |f=>∀ρ' s' tZ,Step ρ (wr up env) s ρ' s'->Fits B ρ' σ' et up env fl s'->VV ρ' f tZ->Q tZ s'
def uN(B:lH)(c:Cx)(k:Lv)(st:fY):Prop:=∀(env:Env) (fl:List Env) (up:Up) (fr:eB) (σ:List O) (f:Fl) (s₁:eP),I4 env fl up->CC c up.sc up.vals st up.fz ⟨fr,σ⟩=af (f,s₁)->
 ∀(A:iW) (ρ:List bk) (s:aM) (Q:Flow->aM->Prop) (E:ay->aM->Prop),kF A k->A.frames=af fl->Fits B ρ σ fr up env fl s->MH B env fl up ρ s s₁.fr s₁.os f Q E->wpAny (model B.pr B.w) A (exec st env) Q E s
def lK(B:lH)(c:Cx)(k:Lv)(st:List fY):Prop:=∀(env:Env) (fl:List Env) (up:Up) (fr:eB) (σ:List O) (f:Fl) (s₁:eP),I4 env fl up->jG c up.sc up.vals st up.fz ⟨fr,σ⟩=af (f,s₁)->
 ∀(A:iW) (ρ:List bk) (s:aM) (Q:Flow->aM->Prop) (E:ay->aM->Prop),kF A k->A.frames=af fl->Fits B ρ σ fr up env fl s->MH B env fl up ρ s s₁.fr s₁.os f Q E->wpAny (model B.pr B.w) A (execs st env) Q E s
theorem MH.next{B env fl up ρ s et σ' Q E}(q:MH B env fl up ρ s et σ' .next Q E)(st:Step ρ (wr up env) s ρ' s')(F:Fits B ρ' σ' et up env fl s'):Q .next s':=q ρ' s' .next st F rfl
theorem DE.back{s_0:aM}{x:ay}{ρ W ρ'}(st:Step ρ W s_0 ρ' s)(h:DE s s' x):DE s_0 s' x:=by
 refine jo h λe oe vs h1 h2 h3=>?_;refine ⟨e,oe,vs,h1,?_,h3⟩;induction q:s_0.heap.get? e using aw with
 |none=>rfl
 |some o=>obtain ⟨o',h'⟩:=st.live e o q;rw [h2] at h';exact nn h'
theorem MH.after{B env fl up ρ s et σ' f Q E ρ_1 s₁}(q:MH B env fl up ρ s et σ' f Q E)(st:Step ρ (wr up env) s ρ_1 s₁):MH B env fl up ρ_1 s₁ et σ' f Q E:=by
 induction f using Fl.casesOn with
 |exc i=>exact λρ' s' x C t st' F hx hr=>q ρ' s' x C t (st.trans st') F hx (hr.back st)
 |next=>exact λρ' s' tZ st' F h=>q ρ' s' tZ (st.trans st') F h
 |brk=>exact λρ' s' tZ st' F h=>q ρ' s' tZ (st.trans st') F h
 |cont=>exact λρ' s' tZ st' F h=>q ρ' s' tZ (st.trans st') F h
 |ret v=>exact λρ' s' tZ st' F h=>q ρ' s' tZ (st.trans st') F h
theorem MH.P0{B env fl up ρ s et σ' f Q E}(q:MH B env fl up ρ s et σ' f Q E)(hf:∀i,f≠ .exc i):∀ρ' s' tZ,Step ρ (wr up env) s ρ' s'->Fits B ρ' σ' et up env fl s'->VV ρ' f tZ->Q tZ s':=by
 induction f using Fl.casesOn with
 |exc i=>exact absurd rfl (hf i)
 |_=>exact q
theorem wQ{f f':Fl}{s s':eP}(h:AE f z s=af (f',s')):f=f'/\s=s'/\∀i,f'≠ .exc i:=by
 induction f using Fl.casesOn with
 |exc i=>exact nn h
 |next=>obtain ⟨rfl,rfl⟩:=aK h;exact ⟨rfl,rfl,λi h=>by injection h⟩
 |brk=>obtain ⟨rfl,rfl⟩:=aK h;exact ⟨rfl,rfl,λi h=>by injection h⟩
 |cont=>obtain ⟨rfl,rfl⟩:=aK h;exact ⟨rfl,rfl,λi h=>by injection h⟩
 |ret v=>obtain ⟨rfl,rfl⟩:=aK h;exact ⟨rfl,rfl,λi h=>by injection h⟩
noncomputable def xN(e:au):Bool:= !(il e.ctorIdx 8)
theorem P1(e:au):xN e=ao∨∃x g sc p,e= .ListComp x g sc p:=by
 induction e using bg<;>first|exact .inl rfl|exact .inr ⟨_,_,_,_,rfl⟩
section
variable{k:Lv}
theorem A2{t:Option au}{st:eP}(hn:xN e=ao)(ev:cX c e up.sc up.vals up.fz st=af (v,s₁)):swapsWith e t n env=aA bf:=by
 induction e using bg<;>first|rfl|(injection hn;done)|(dsimp only [cX] at ev;exact nn ev)
theorem Hx{st:eP}(hn:xN e=ao)(ev:cX c e up.sc up.vals up.fz st=af (v,s₁)):wB ts e n env=aA bf:=by
 match ts with
 | []=>rfl
 | [t]=>exact A2 hn ev
 |_::_::_=>rfl
theorem P2(h:dP B c k e):uN B c k (.Expr e pos):=λenv fl up fr σ f s₁ hF ev A ρ s Q E rm a F q=>by
 refine Ta ev λhn ev=>?_;have hn:xN e=ao:=by unfold xN;rw [yB.mpr hn];rfl
 refine bQ ev λw s_2 h1 e1=>?_;obtain ⟨rfl,rfl⟩:=aK e1;refine wpAny_Expr_any (h env fl _ fr σ w _ h1 A ρ s _ E rm a F λρ' s' x st F' _=>q.next st F') (by dsimp only [interactive];refine F.ok.kind▸ ?_;rfl) (A2 hn h1)
theorem Ku{t:au}{x:ay}{Q:Unit->aM->Prop}(H:ej c B)(hev:∀e,dP B c k e)
  (e:G3 c up.sc up.vals v t up.fz ⟨fr,σ⟩=af (u,s₁)) (rm:kF A k) (a:A.frames=af fl) (F:Fits B ρ σ fr up env fl s) (hx:cB ρ v x) (q:KA B env fl up ρ s s₁.fr s₁.os () Q):wpAny (model B.pr B.w) A (assign t env x) Q E s:=by
 refine eh e (λn w e=>?_) (λ_ e=>?_)
 ·refine lG (wM w) λp h=>?_;subst h;exact jR (o8 (k:=k) e rm a F hx q)
 refine eh e (λoa w e=>?_) (λ_ e=>?_)
 ·refine bQ e λw' s_2 h1 e1=>?_;rw [G7 w];show wpAny _ A (do let ov←holding [x] (eval oa.1 env);lj oa.2.2.atName;holding [x,ov] (Ao ov oa.2.1 x);release [x,ov] []) Q E s;refine aB (dZ (hev oa.1 env fl up fr σ w' s_2 h1 A ρ s _ E rm a F λρ_1 t_1 y st F_1 hy=>aB (eD (aB (dZ ?_)))));exact AR F_1 H e1 hy (hx.ext st.ext') λρ_2 t_2 st' F_2=>wpAny_release (q ρ_2 t_2 (st.trans st') F_2)
 ·refine bZ e λoi w e=>?_;refine bQ e λw' s_2 h1 e1=>?_;refine bQ e1 λw'' s_3 h2 e2=>?_;refine lG (RR w) λp h=>?_;rw [h,arm_assign_Subscript];refine aB (dZ (hev oi.1 env fl up fr σ w' s_2 h1 A ρ s _ E rm a F λρ_1 t_1 y st F_1 hy=>aB (dZ ?_)));refine hev oi.2 env fl up s_2.fr s_2.os w'' s_3 h2 A ρ_1 t_1 _ E rm a F_1 λρ_2 t_2 z st' F_2 hz=>aB (eD (aB (dZ ?_)));exact Hf F_2 H.aj e2 (hy.ext st'.ext') hz ((hx.ext st.ext').ext st'.ext') λρ_3 t_3 st'' F_3=>wpAny_release (q ρ_3 t_3 ((st.trans st').trans st'') F_3)
theorem Cd{t:au}{st:eP}(e:G3 c up.sc up.vals v t up.fz st=af (u,s₁)):iG (t::ts) env=(bf,assign t env)::iG ts env:=by
 induction t using bg<;>first|rfl|exact nn e
theorem Hy:∀(ts:List au) {v:V}{x:ay}{u:Unit}{s₁:eP}{env:Env}{fl:List Env}{up:Up}{fr:eB}{σ:List O}{A:iW}{ρ:List bk}{s:aM}{Q:Unit->aM->Prop}{E:ay->aM->Prop}(H:ej c B) (hev:∀e,dP B c k e)
  (e:z9 c up.sc up.vals v ts up.fz ⟨fr,σ⟩=af (u,s₁)) (rm:kF A k) (a:A.frames=af fl) (F:Fits B ρ σ fr up env fl s) (hx:cB ρ v x) (q:KA B env fl up ρ s s₁.fr s₁.os () Q),wpAny (model B.pr B.w) A (assignAll x ((iG ts env).map (·.2))) Q E s:=by
 intro ts;induction ts with
 |nil=>
  intro v x u s₁ env fl up fr σ A ρ s Q E H hev e rm a F hx q;obtain ⟨_,rfl⟩:=aK (a:=()) e;exact bF (q.same F)
 |cons t r ih=>
  intro v x u s₁ env fl up fr σ A ρ s Q E H hev e rm a F hx q;refine bQ e λu' s_2 h1 e1=>?_;refine (Cd h1)▸ ?_;have one:∀{Q':Unit->aM->Prop},(∀ρ' s',Step ρ (wr up env) s ρ' s'->Fits B ρ' s_2.os s_2.fr up env fl s'->Q' () s')->wpAny (model B.pr B.w) A (assign t env x) Q' E s:=λq'=>Ku H hev h1 rm a F hx q';induction hr:(iG r env).map (·.2) using aC with
  |nil=>
   have hr':r= []:=by
    induction r using aC with
    |nil=>rfl
    |cons y ys=>induction y using bg<;>injection hr
   subst hr';obtain ⟨_,rfl⟩:=aK (a:=()) e1;exact one q
  |cons y ys=>
   show wpAny _ A (assignAll x (assign t env::(iG r env).map (·.2))) Q E s;refine hr▸ ?_;show wpAny _ A (holding [x] (assign t env x)>>=λ_=>assignAll x (y::ys)) Q E s;refine aB (dZ (one λρ_1 t_1 st F_1=>?_));refine (hr).symm▸ ?_;exact ih H hev e1 rm a F_1 (hx.ext st.ext') λρ_2 t_2 st' F_2=>q ρ_2 t_2 (st.trans st') F_2
theorem DF{st:eP}(h:z9 c up.sc up.vals v ts up.fz st=af (u,s₁)):swappedStores ts e env=aA ae:=by
 match ts with
 | []=>rfl
 | [t]=>
  refine bQ h λu' s_2 h1 e1=>?_;induction t using bg<;>first|rfl|exact nn h1
 |_::_::_=>
  refine bQ h λu' s_2 h1 e1=>?_
  rename_i t _ _
  induction t using bg<;>first|rfl|exact nn h1
theorem Kv(H:yP B c k)(hev:∀e,dP B c k e)(hts:∀e,o7 B c k e):uN B c k (.Assign ts e pos):=λenv fl up fr σ f s₁ hF ev A ρ s Q E rm a F q=>by
 refine bQ ev λw s_2 h1 e1=>?_;refine bQ e1 λu s_3 h2 e2=>?_;obtain ⟨rfl,rfl⟩:=aK e2;have plain:wB ts e pos.line env=aA bf->wpAny (model B.pr B.w) A (exec (.Assign ts e pos) env) Q E s:=λhs=>by
  refine wpAny_Assign_stores (hev e env fl up fr σ w _ h1 A ρ s _ E rm a F λρ_1 t_1 x st F_1 hx=>?_) hs (DF h2);exact Hy ts H.n9 hev h2 rm a F_1 hx λρ_2 t_2 st' F_2=>q.next (st.trans st') F_2
 rcases P1 e with hn|⟨elt,gens,scope,p,rfl⟩
 case inl=>exact plain (Hx hn h1)
 case inr=>
  have Zr:(∃b,wB ts (.ListComp elt gens scope p) pos.line env=aA b/\(b=ao->∃y py,ts= [.Name y py])):=by
   match ts with
   | []=>exact ⟨bf,rfl,λh=>by injection h⟩
   | [t]=>
    induction t using bg with
    |Name y py=>exact ⟨_,rfl,λ_=>⟨y,py,rfl⟩⟩
    |_=>exact ⟨bf,rfl,λh=>by injection h⟩
   |_::_::_=>exact ⟨bf,rfl,λh=>by injection h⟩
  refine aR Zr λb hb hy=>?_;induction b using cG with
  |false=>exact plain hb
  |true=>
   refine Aq (hy rfl) λy py q'1=>?_;obtain rfl:=q'1;have hb':swapsWith (.ListComp elt gens scope p) (af (.Name y py)) pos.line env=aA ao:=hb;refine (exec_Assign_Name_used _ _ _ _ hb')▸ ?_;refine aB (eD (aB ?_));have hf:=wd h1;show wpAny _ A (do let _←comprehension (.ListComp elt gens scope p) scope env (firstIterPos gens p) (newList []) (firstAsync gens) (firstIter gens env) (af (assign (.Name y py) env))) _ _ s;refine hf▸ ?_;refine aB (fZ (I2 (use:=af (assign (.Name y py) env)) (Q:=λ_ s'=>Q .next s') H (λg _=>⟨λx _=>hts x,hev _⟩) (hev elt) h1 rm a F λρ' s' acc C m st F' hv o4 hn hC=>?_) (λ_ s' hq=>bF (bF hq)) λ_ _ e=>e);show wpAny _ A (assign (.Name y py) env acc) _ _ s';have h2':setC up.sc y w up.fz ⟨s_2.fr,s_2.os⟩=af ((),s₁):=by
    refine bQ h2 λu' s_4 h3 e3=>?_;obtain ⟨_,rfl⟩:=aK (a:=()) e3;exact h3
   refine jR (o8 (k:=k) h2' rm a F' hv λρ_2 t_2 st' F_2=>?_);refine jo (id hn) λo es n g1 g2 g3=>?_;have hkC:t_2.heap.get? C=af o:=st'.keep C o g1 (.inl o4.ρ) λh=>(aG.mp h).elim o4.own o4.fr;have UW:Hid B ρ_2 env up C:=by
    refine ⟨λh=>?_,o4.own,o4.base,o4.fr⟩;refine aR st'.ext λm' e' hm'=>?_;rw [e'] at h;rcases aG.mp h with h|h
    ·exact o4.ρ h
    ·rw [hm' C h] at g1;exact nn g1
   refine ⟨m,⟨o,es,n,hkC,g2,g3⟩,λh' hs=>?_⟩;obtain ⟨st'',zd⟩:=MB (st.trans st') F_2 UW hC hs;exact q.next st'' zd
theorem TF{t:au}{op:yq}(H:ej c B)(hev:∀e,dP B c k e):uN B c k (.AugAssign t op e pos):=λenv fl up fr σ f s₁ hF ev A ρ s Q E rm a F q=>by
 refine nD ev λoa hw JI=>?_;clear ev;obtain ⟨o,at',tp⟩:=oa;have ht:=G7 hw;subst ht;refine bQ JI λw s_2 h1 e1=>?_;refine bQ e1 λold s_3 h2 e2=>?_;refine bQ e2 λv s_4 h3 e3=>?_;refine bQ e3 λnew s_5 h4 e4=>?_;refine bQ e4 λu s_6 h5 e5=>?_;obtain ⟨rfl,rfl⟩:=aK e5;refine wpAny_AugAssign_AttributeAny (hev o env fl up fr σ w _ h1 A ρ s _ E rm a F λρ_1 t_1 x gp F_1 hx=>?_);refine IY F_1 H h2 hx λρ_2 t_2 y kC F_2 hy=>?_;refine hev e env fl up s_3.fr s_3.os v _ h3 A ρ_2 t_2 _ E rm a F_2 λρ_3 t_3 z kD F_3 hz=>?_;have fin:∀{r:ay}{tk:Nat},s_5=s_4->cB ρ_3 new r->wpAny (model B.pr B.w) A (Ao x at' r) (λ_=>Q .next) E {t_3 with toks:=tk}:=λhs hr=>by
  subst hs;exact AR (F_3.toks _) H h5 ((hx.ext kC.ext').ext kD.ext') hr λρ_4 t_4 my F_4=>q.next (((gp.trans kC).trans kD).trans (Step.toks.trans my)) F_4
 refine rN h4 (hy.ext kD.ext') hz λi j u u' w1 w2 h4=>?_;subst w1;subst w2;induction op using tD with
 |Add=>
  obtain ⟨rfl,rfl⟩:=aK h4;exact PySem.AutoIntOps.iadd_0 (fin rfl ⟨_,rfl⟩)
 |Sub=>
  obtain ⟨rfl,rfl⟩:=aK h4;exact PySem.AutoIntOps.isub_0 (fin rfl ⟨_,rfl⟩)
 |_=>exact nn h4
theorem TG(H:ej c B)(hev:∀e,dP B c k e):uN B c k (.Delete ts pos):=λenv fl up fr σ f s₁ hF ev A ρ s Q E rm a F q=>by
 refine nD ev λoi hw JI=>?_;clear ev;obtain ⟨o,i⟩:=oi;refine eY hw λt hw1 Yw=>?_;refine lG (RR Yw) λp ht=>?_;rw [AJ hw1,ht];refine bQ JI λw s_2 h1 e1=>?_;refine bQ e1 λv s_3 h2 e2=>?_;refine bQ e2 λu s_4 h3 e3=>?_;obtain ⟨rfl,rfl⟩:=aK e3;refine wpAny_Delete (wpAny_deleteEach_cons (wpAny_delete_Subscript (hev o env fl up fr σ w _ h1 A ρ s _ E rm a F λρ_1 t_1 x gp F_1 hx=>?_)));refine hev i env fl up s_2.fr s_2.os v _ h2 A ρ_1 t_1 _ E rm a F_1 λρ_2 t_2 y kC F_2 hy=>?_;exact Hg F_2 H.aj h3 (hx.ext kC.ext') hy λρ_3 t_3 kD F_3=>wpAny_deleteEach_nil (q.next ((gp.trans kC).trans kD) F_3)
theorem TH{e:Option au}(h:∀e,dP B c k e):uN B c k (.Return e pos):=λenv fl up fr σ f s₁ hF ev A ρ s Q E rm a F q=>by
 refine bQ ev λw s_2 h1 e1=>?_;obtain ⟨rfl,rfl⟩:=aK e1;induction e using aw with
 |none=>
  obtain ⟨rfl,rfl⟩:=aK (a:=fX) h1;exact wpAny_Return_none (q ρ s _ Step.refl F ⟨_,rfl,rfl⟩)
 |some e=>exact qN (h e env fl up fr σ w _ h1 A ρ s _ E rm a F λρ' s' x st F' hx=>q ρ' s' _ st F' ⟨x,rfl,hx⟩)
theorem MI:uN B c k (.Break pos):=λenv fl up fr σ f s₁ hF ev A ρ s Q E rm a F q=>by
 dsimp only [CC] at ev;obtain ⟨rfl,rfl⟩:=aK ev;exact wpAny_Break (q ρ s _ Step.refl F rfl)
theorem Fm:uN B c k (.Continue pos):=λenv fl up fr σ f s₁ hF ev A ρ s Q E rm a F q=>by
 dsimp only [CC] at ev;obtain ⟨rfl,rfl⟩:=aK ev;exact wpAny_Continue (q ρ s _ Step.refl F rfl)
theorem P4:lK B c k []:=λenv fl up fr σ f s₁ hF ev A ρ s Q E rm a F q=>by
 dsimp only [jG] at ev;obtain ⟨rfl,rfl⟩:=aK ev;exact t7 (q ρ s _ Step.refl F rfl)
theorem MJ{st:fY}{r:List fY}(h:uN B c k st)(hr:lK B c k r):lK B c k (st::r):=λenv fl up fr σ f s₁ hF ev A ρ s Q E rm a F q=>by
 refine bQ ev λf' s_2 h1 e1=>?_;refine mT (h env fl up fr σ f' s_2 hF h1 A ρ s _ E rm a F ?_);induction f' using Fl.casesOn with
 |next=>exact λρ_1 t_1 tZ gp F_1 hf=>by subst hf;exact hr env fl up s_2.fr s_2.os f s₁ hF e1 A ρ_1 t_1 Q E rm a F_1 (q.after gp)
 |brk=>obtain ⟨rfl,rfl⟩:=aK e1;exact λρ_1 t_1 tZ gp F_1 hf=>by subst hf;exact q ρ_1 t_1 _ gp F_1 rfl
 |cont=>obtain ⟨rfl,rfl⟩:=aK e1;exact λρ_1 t_1 tZ gp F_1 hf=>by subst hf;exact q ρ_1 t_1 _ gp F_1 rfl
 |ret v=>obtain ⟨rfl,rfl⟩:=aK e1;exact λρ_1 t_1 tZ gp F_1 hf=>by refine aR hf λx q'2 hx=>?_;obtain rfl:=q'2;exact q ρ_1 t_1 _ gp F_1 ⟨x,rfl,hx⟩
 |exc i=>obtain ⟨rfl,rfl⟩:=aK e1;exact q
theorem V1{t:au}{b o:List fY}(ht:o7 B c k t)(hb:lK B c k b)(ho:lK B c k o):uN B c k (.If t b o pos):=λenv fl up fr σ f s₁ hF ev A ρ s Q E rm a F q=>by
 refine bQ ev λw s_2 h1 e1=>?_;refine wpAny_If (ht env fl up fr σ w s_2 h1 A ρ s _ E rm a F λρ_1 t_1 st F_1=>?_);induction w using cG with
 |true=>exact hb env fl _ s_2.fr s_2.os f s₁ hF e1 A ρ_1 t_1 Q E rm a F_1 (q.after st)
 |false=>exact ho env fl _ s_2.fr s_2.os f s₁ hF e1 A ρ_1 t_1 Q E rm a F_1 (q.after st)
theorem MK{t:au}{b o:List fY}(ht:o7 B c k t)(hb:lK B c k b)(ho:lK B c k o):uN B c k (.While t b o pos):=λenv fl up fr σ f s₁ hF ev A ρ s Q E rm a F q=>by
 dsimp only [CC] at ev;refine wpAny_While (codeAny_whileLoop (λn s'=>∃ρ' et σ',Step ρ (wr up env) s ρ' s'/\Fits B ρ' σ' et up env fl s'/\hU (tU c t up.sc up.vals (cX c t up.sc up.vals)) (jG c up.sc up.vals b) (jG c up.sc up.vals o) n up.fz ⟨et,σ'⟩=af (f,s₁)) ?_ c.fuel ⟨ρ,fr,σ,Step.refl,F,ev⟩);rintro n s' ⟨ρ',et,σ',st,F',e'⟩;induction n using nM with
 |zero=>exact nn e'
 |succ n=>
  refine bQ e' λw s_2 h1 e1=>?_;refine ht env fl up et σ' w s_2 h1 A ρ' s' _ _ rm a F' λρ_1 t_1 gp F_1=>?_;induction w using cG with
  |true=>
   rw [if_pos rfl] at e1 ⊢;refine bQ e1 λf' s_3 h2 e2=>?_;have wx:∀j,f'≠ .exc j:=λj hj=>by subst hj;exact nn e2
   refine hb env fl up s_2.fr s_2.os f' s_3 hF h2 A ρ_1 t_1 _ _ rm a F_1 ?_;have cont:∀ρ_2 t_2 tZ,Step ρ_1 (wr up env) t_1 ρ_2 t_2->Fits B ρ_2 s_3.os s_3.fr up env fl t_2->VV ρ_2 f' tZ->(match tZ with
      | .next| .cont=>∃m,m<n+1/\∃ρ' et σ',Step ρ (wr up env) s ρ' t_2/\Fits B ρ' σ' et up env fl t_2/\hU (tU c t up.sc up.vals (cX c t up.sc up.vals)) (jG c up.sc up.vals b) (jG c up.sc up.vals o) m up.fz ⟨et,σ'⟩=af (f,s₁)
      | .brk=>Q .next t_2
      | .ret v=>Q (.ret v) t_2:Prop):=λρ_2 t_2 tZ kC F_2 hfl=>by
    have total:=(st.trans gp).trans kC;induction f' using Fl.casesOn with
    |next=>subst hfl;exact ⟨n,bU n,ρ_2,_,_,total,F_2,e2⟩
    |cont=>subst hfl;exact ⟨n,bU n,ρ_2,_,_,total,F_2,e2⟩
    |brk=>subst hfl;obtain ⟨rfl,rfl⟩:=aK e2;exact q.next total F_2
    |ret v=>refine aR hfl λx q'3 hx=>?_;obtain rfl:=q'3;obtain ⟨rfl,rfl⟩:=aK e2;exact q ρ_2 t_2 _ total F_2 ⟨x,rfl,hx⟩
    |exc j=>exact absurd rfl (wx j)
   induction f' using Fl.casesOn with
   |exc j=>exact absurd rfl (wx j)
   |next=>exact cont
   |brk=>exact cont
   |cont=>exact cont
   |ret v=>exact cont
  |false=>
   rw [if_neg (by decide)] at e1 ⊢;refine bQ e1 λf' s_3 h3 e3=>?_;refine cW (wQ e3) λq'4 q'5 wx=>?_;obtain rfl:=q'4;obtain rfl:=q'5;refine ho env fl up s_2.fr s_2.os f' s_3 hF h3 A ρ_1 t_1 _ _ rm a F_1 ?_;have:=(q.after (st.trans gp)).P0 wx;induction f' using Fl.casesOn with
   |exc j=>exact absurd rfl (wx j)
   |next=>exact this
   |brk=>exact this
   |cont=>exact this
   |ret v=>exact this
theorem TJ{t:au}{b o:List fY}(H:yP B c k)(he:dP B c k e)(hb:lK B c k b):uN B c k (.For t e b o pos):=λenv fl up fr σ f s₁ hF ev A ρ s Q E rm a F q=>by
 refine Ta ev λhns JI=>?_;clear ev;rw [eA,not_or] at hns;refine nD JI λx hw Rt=>?_;clear JI;refine lG (wM hw) λp ht=>?_;have ho:o= []:=by
  induction o using aC with
  |nil=>rfl
  |cons _ _=>exact absurd rfl hns.2
 subst ht;subst ho;refine bQ Rt λw s_2 h1 e1=>?_;refine bQ e1 λsrc s_3 h2 e2=>?_;refine wpAny_For (he env fl up fr σ w s_2 h1 A ρ s _ E rm a F λρ_1 t_1 y st F_1 hy=>?_) (uL (by simpa using hns.1));have Rr:s_3=⟨s_2.fr,s_2.os⟩:=(qy (A:=A) (E:=E) (Q:=λ_ _=>True) F_1 H.n9 h2 hy λ_ _ _ _ _=>trivial).1;have BI:c.hd=ao:=(qy (A:=A) (E:=E) (Q:=λ_ _=>True) F_1 H.n9 h2 hy λ_ _ _ _ _=>trivial).2.1;have hA:A.handled=ae:=rm.hd (H.hd BI);subst Rr;refine (qy (A:=A) (E:=E) F_1 H.n9 h2 hy λo St fp It O8=>?_).2.2;have wx:∀j,f≠ .exc j:=by
  have:∀(l:List V) (z:List Nat) (s_0 s₁:eP) (f:Fl),fU (λv=>do setC up.sc x v;jG c up.sc up.vals b) l z s_0=af (f,s₁)->∀j,f≠ .exc j:=by
   intro l;induction l with
   |nil=>intro z s_0 s₁ f h j hj;subst hj;cases (aK h).1
   |cons v r ih=>
    intro z s_0 s₁ f h;refine bQ h λf' s_4 h3 e3=>?_;induction f' using Fl.casesOn with
    |next=>exact ih _ _ _ _ e3
    |cont=>exact ih _ _ _ _ e3
    |brk=>obtain ⟨rfl,_⟩:=aK e3;exact λj hj=>by injection hj
    |ret v=>obtain ⟨rfl,_⟩:=aK e3;exact λj hj=>by injection hj
    |exc j=>exact nn e3
  exact this _ _ _ _ _ e2
 refine Hu hA F_1 rfl It O8 (λi h y s' Q E' st hs q=>?_) e2 (λv y fr σ f s₁ ρ s Q E' ev hne F hv q'=>?_) ((q.after st).P0 wx)
 ·subst hs;refine aR (It.cls i _ st) λo ho hp=>?_;exact owned_go ho hp q
 ·refine bQ ev λu s_4 h3 e3=>?_;refine jR (o8 (k:=k) (up:=Up.gK up src.fz) h3 rm a F hv λρ_2 t_2 kC F_2=>?_);refine hb env fl (Up.gK up src.fz) s_4.fr s_4.os f s₁ ⟨hF.fr,hF.hd⟩ e3 A ρ_2 t_2 Q E' rm a F_2 ?_;have:=λρ' s' tZ st' F' h=>q' ρ' s' tZ (kC.trans st') F' h;induction f using Fl.casesOn with
  |exc j=>exact absurd rfl (hne j)
  |next=>exact this
  |brk=>exact this
  |cont=>exact this
  |ret v=>exact this
end
section
variable{M:Model}
theorem DG(f:Str × α->List (Str × α)->Sem (ForInStep (List (Str × α))))(hf:∀n d sl,f (n,d) sl=if (sl.lookup n).isNone=ao then aA (.yield (sl++ [(n,d)])) else aA (.yield sl)):
  ∀(l:List (Str × α)) (sl:List (Str × α)),(forIn l sl f:Sem (List (Str × α)))=aA (AI sl l)
 | [],sl=>rfl
 |(n,d)::r,sl=>by
  rw [lq,hf];dsimp only [AI];by_cases h:(sl.lookup n).isNone=ao
  ·rw [if_pos h,if_pos h,pure_bind];exact DG f hf r _
  ·rw [if_neg h,if_neg h,pure_bind];exact DG f hf r _
theorem Fn{fd:kS}{pM:List ay}{Q:List (Str × ay)->aM->Prop}(h1:fd.params.posonlyargs= [])(h2:fd.params.kwonlyargs= [])(h3:fd.params.kwarg=ae)
  (hd:∀(Q:Option (Array ay)->aM->Prop),Q (af pM.toArray) s->(pM= []->Q ae s)->wpAny M A (zj fd.defaults) Q E s) (hok:yL (fd.params.args.map (·.arg)) pM vals fd.params.vararg.isSome=ao)
  (q:match fd.params.vararg with
   |none=>Q (xB (fd.params.args.map (·.arg)) pM vals) s
   |some a=>wpAny M A (newTuple (vals.drop fd.params.args.length)) (λt s'=>Q (xB (fd.params.args.map (·.arg)) pM vals++ [(a.arg,t)]) s') E s):wpAny M A (bindArgs fd ⟨vals,[]⟩) Q E s:=by
 dsimp only [yL] at hok;rw [aS] at hok;obtain ⟨k1,k2⟩:=hok;dsimp only [bindArgs];simp only [h1,h2,h3,yC,dS,vl,pure_bind,bB];generalize hps:fd.params.args.map (·.arg)=ps at*;have hlen:fd.params.args.length=ps.length:=by rw [←hps,aH]
 rw [hlen] at q;have n1:¬((decide (vals.length>ps.length)&&fd.params.vararg.isNone)=ao):=by
  intro h;rw [aS] at h;obtain ⟨a1,a2⟩:=h;induction hv:fd.params.vararg using aw with
  |none=>rw [hv] at k1;simp at k1 a1;exact (aX _ (ag a1 k1)).elim
  |some a=>rw [hv] at a2;injection a2
 have n2:¬((!(qO (λn=>(qP n (ps.zip vals)).isNone) (List.take (ps.length-(sC (pM.length-ps.length) pM).length) ps)).isEmpty)=ao):=by
  intro h;have:qO (λn=>(qP n (ps.zip vals)).isNone) (List.take (ps.length-(sC (pM.length-ps.length) pM).length) ps)= []:=by
   refine (jf).mpr ?_;intro n hn hz;have:=bK.mp k2 n hn;rw [hY.mp hz] at this;injection this
  rw [this] at h;injection h
 have fin:wpAny M A (forIn ((sC (ps.length-(sC (pM.length-ps.length) pM).length) ps).zip (sC (pM.length-ps.length) pM)) (ps.zip vals) (λx __s=>if (qP x.fst __s).isNone=ao then aA (dE (__s++ [(x.fst,x.snd)])) else aA (dE __s))>>=λ__s=>
   (match fd.params.vararg with
    |some a=>do
     let t←newTuple (sC ps.length vals)
     pure (BP (λn=>iF (λx=>(n,x)) (qP n __s)) ps++ [(a.arg,t)])
    |x=>aA (BP (λn=>iF (λx=>(n,x)) (qP n __s)) ps):Sem (List (Str × ay)))) Q E s:=by
  rw [DG _ (λn d sl=>rfl),pure_bind];induction hv:fd.params.vararg using aw with
  |none=>rw [hv] at q;exact bF q
  |some a=>rw [hv] at q;exact aB (fZ q (λt s' h=>bF h) λ_ _ h=>h)
 refine aB (hd _ ?_ λZs=>?_)
 ·refine (if_neg n1)▸ ?_;simp only [zk,List.toList_toArray];refine (if_neg n2)▸ ?_;exact fin
 ·subst Zs;refine (if_neg n1)▸ ?_;simp only [zl,Array.toList_empty];refine (if_neg n2)▸ ?_;exact fin
end
theorem cY.zip{ps:List Str}(h:bM ρ as vals):cY ρ (ps.zip as) (ps.zip vals):=
 h.by (P:=λas vals=>∀ps:List Str,cY ρ (ps.zip as) (ps.zip vals)) (λps=>by rw [xg,xg];trivial) (λa as v vals r _ ih ps=>by
  induction ps using aC with
  |nil=>trivial
  |cons p ps=>exact ⟨⟨rfl,r⟩,ih ps⟩) ps
theorem cY.lookup(h:cY ρ es kvs):n8 ρ (es.lookup x) (kvs.lookup x):=
 h.by (P:=λes kvs=>n8 ρ (es.lookup x) (kvs.lookup x)) rfl λa v es w kvs h hs ih=>by
  rw [cz,cz];induction hx:x==a using cG with
  |true=>exact ⟨w,rfl,h⟩
  |false=>exact ih
theorem cY.V2{y:ay}(hv:cB ρ v y)(h:cY ρ es kvs):cY ρ (es++ [(x,v)]) (kvs++ [(x,y)]):=cY.snoc hv h
theorem cY.AI{l:List (Str × V)}{l':List (Str × ay)}{sl:List (Str × V)}{OI:List (Str × ay)}(h:cY ρ sl OI)(hl:cY ρ l l'):cY ρ (AI sl l) (AI OI l'):=
 hl.by (P:=λl l'=>∀sl OI,cY ρ sl OI->cY ρ (Internal.AI sl l) (Internal.AI OI l')) (λ_ _ h=>h) (λa v l w l' hv hs ih sl OI h=>by
  dsimp only [Internal.AI];have:(sl.lookup a).isNone=(OI.lookup a).isNone:=by
   have:=(h.lookup (x:=a)).uH;cases q:sl.lookup a<;>cases q':OI.lookup a<;>rw [q,q'] at this<;>first|rfl|injection this
  rw [this];induction hz:(OI.lookup a).isNone using cG with
  |true=>exact ih _ _ (h.V2 hv)
  |false=>exact ih _ _ h) sl OI h
theorem CQ{ps:List Str}{pM:List V}{Cp:List ay}(hd:bM ρ pM Cp)(ha:bM ρ as vals):cY ρ (xB ps pM as) (xB ps Cp vals):=by
 have h1:bM ρ (sV ps pM) (sV ps Cp):=by
  dsimp only [sV];rw [hd.length];exact hd.drop _
 have h2:cY ρ (uF ps pM as) (uF ps Cp vals):=by
  dsimp only [uF];rw [h1.length];exact cY.AI (cY.zip ha) (cY.zip h1)
 dsimp only [xB];have main:∀l:List Str,cY ρ (l.filterMap λn=>((uF ps pM as).lookup n).map λv=>(n,v)) (l.filterMap λn=>((uF ps Cp vals).lookup n).map λv=>(n,v)):=by
  intro l;induction l with
  |nil=>trivial
  |cons n r ih=>
   have:=h2.lookup (x:=n);rw [oq,oq];induction q:(uF ps pM as).lookup n using aw with
   |none=>rw [q] at this;rw [show (uF ps Cp vals).lookup n=ae from this];exact ih
   |some v=>
    rw [q] at this;refine aR this λy hy hv=>?_;refine hy▸ ?_;exact ⟨⟨rfl,hv⟩,ih⟩
 exact main ps
theorem Kx{ps:List Str}{pM:List V}{Cp:List ay}{more:Bool}(hd:bM ρ pM Cp)(ha:bM ρ as vals):yL ps pM as more=yL ps Cp vals more:=by
 have h1:(sV ps pM).length=(sV ps Cp).length:=by dsimp only [sV];simp [hd.length]
 have h2:∀n,((ps.zip as).lookup n).isSome=((ps.zip vals).lookup n).isSome:=λn=>((cY.zip ha).lookup (x:=n)).uH;dsimp only [yL];rw [h1,ha.length];congr 2
 funext n
 exact h2 n
theorem Hz{kd:Str->Option ir}{bs:List (Str × V)}(hr:cY ρ bs bv)(hx:kd x=af .local)(hk:∀p∈bs,kd p.1=af .local∨kd p.1=af .cell)(h:mu ρ (getF fr x) (m x)):mu ρ (getF (putAll fr bs) x) (PySem.bindL kd bv m x):=by
 clear hk;refine hr.by (P:=λbs bv=>∀fr m,mu ρ (getF fr x) (m x)->mu ρ (getF (putAll fr bs) x) (PySem.bindL kd bv m x)) ?_ (λa v bs w bv hv hs ih fr m h=>?_) fr m h
 ·intro fr m h;exact h
 ·dsimp only [putAll,PySem.bindL];by_cases ha:kd a=af .local
  ·refine (if_pos ha)▸ ?_;refine ih _ _ ?_;rw [b6];by_cases hxa:x=a
   ·subst hxa;simp only [if_true];exact ⟨w,rfl,hv⟩
   ·simp only [hxa,if_false];exact h
  ·refine (if_neg ha)▸ ?_;refine ih _ _ ?_;rw [b6,if_neg (by rintro rfl;exact ha hx)];exact h
theorem Fo{kd:Str->Option ir}{bs:List (Str × V)}(hr:cY ρ bs bv)(hx:kd x=af .cell)(hk:∀p∈bs,kd p.1=af .local∨kd p.1=af .cell)(h:mu ρ (getF fr x) (m x)):mu ρ (getF (putAll fr bs) x) (PySem.bindC kd bv m x):=by
 clear hk;refine hr.by (P:=λbs bv=>∀fr m,mu ρ (getF fr x) (m x)->mu ρ (getF (putAll fr bs) x) (PySem.bindC kd bv m x)) ?_ (λa v bs w bv hv hs ih fr m h=>?_) fr m h
 ·intro fr m h;exact h
 ·dsimp only [putAll,PySem.bindC];by_cases ha:kd a=af .local
  ·refine (if_pos ha)▸ ?_;refine ih _ _ ?_;rw [b6,if_neg (by rintro rfl;rw [hx] at ha;contradiction)];exact h
  ·refine (if_neg ha)▸ ?_;refine ih _ _ ?_;rw [b6];by_cases hxa:x=a
   ·subst hxa;simp only [if_true];exact ⟨w,rfl,hv⟩
   ·simp only [hxa,if_false];exact h
section
variable{M:Model}{base:pO}{outer:List Env}{L e:bk}{oe:Obj}{vs:Array ay}
structure jr(S kE:List bk)(h h':pO):Prop where
 keep:∀b o,b∉S->b∉kE->h.get? b=af o->h'.get? b=af o
 wN:∀b o,b∉S->b∈kE->h.get? b=af o->∃o',h'.get? b=af o'/\o'.data=o.data
theorem CS{head:ay}{hadNext:Bool}{Q:Unit->aM->Prop}(hfr:A.frames=af (env::outer))(hl:s.heap.FunFrames base (env::outer))(hf:env.frame=af L)(he:s.heap.get? e=af oe)(hd:oe.data= .fields vs)(hsz:1<vs.size)
  (h:∀h' T oT ts,jr [e] ((env::outer).filterMap (·.frame)) s.heap h'->s.heap.get? T=ae->T≠e->h'.get? e=af (oe.mapFields (·.setIfInBounds 1 (.ref T)))->h'.get? T=af oT->oT.data= .fields ts->3<ts.size->Q () {s with heap:=h'}):
  wpAny M A (do let a←frameOf env;let pl←entryPlaceOf L hadNext;let b←v5 head a .none (xd L) .none pl;setField (.ref e) 1 b) Q E s:=by
 have Zt:e∉(env::outer).filterMap (·.frame):=λhm=>by
  refine d7 (hl.mem hm) λ_ r'1=>?_;refine aR r'1 λo ho hnf=>?_;rw [he] at ho;injection ho with ho;subst ho;exact hnf vs hd
 refine aB (wpAny_frameOf_fun hfr hl hf λh_1 hs_1=>?_);refine aB (wpAny_entryPlaceOf λpl hpl=>?_);dsimp only [v5,newFields];refine aB (jS ?_ (hpl.sizeOk5 _ _ _ _ _));have Gp:h_1.get? e=af oe:=(hs_1.2.1 e Zt).trans he;generalize hoT:({cls:=.type "traceback",dict:=ae,data:=.fields ([head,.ref L,.none,xd L,.none]++(if pl.isEmpty then gw 6 cq else pl)).toArray}:Obj)=oT;have zO:=aP (h:=h_1) oT Gp;refine l9 zO hd hsz ?_;have Lx:h_1.objs.size≠e:=eM (du Gp);have Xe:=g9 hd (·.setIfInBounds 1 (cC h_1.objs.size));have yf:=fS (gR (·.setIfInBounds 1 (cC h_1.objs.size))) zO (mC Xe);have hTd:oT.data= .fields ([head,.ref L,.none,xd L,.none]++(if pl.isEmpty then gw 6 cq else pl)).toArray:=by exact congrArg _ (hoT).symm
 have C8:=(jj (h_1.push oT) (gR (·.setIfInBounds 1 (cC h_1.objs.size))) (yn Lx)).trans (dh h_1 (by refine (hoT).symm▸ ?_;rfl));have keep:∀b o,b≠e->h_1.get? b=af o->((h_1.push oT).update e (gR (·.setIfInBounds 1 (cC h_1.objs.size)))).get? b=af o:=λb o hbe hb=>by
  refine (jj _ _ (yn hbe)).trans ?_;exact aP _ hb
 refine h _ h_1.objs.size oT _ ⟨λb o hb hf EE=>keep b o (λq=>hb (by simp [q])) ((hs_1.2.1 b hf).trans EE),λb o hb hf EE=>?_⟩ ?_ Lx yf C8 hTd (by exact iK rfl)
 ·obtain ⟨sl,hs⟩:=hs_1.2.2 b o EE;exact ⟨_,keep b _ (λq=>hb (by simp [q])) hs,rfl⟩
 ·induction q:s.heap.get? h_1.objs.size using aw with
  |none=>rfl
  |some o=>exact absurd (du q) (by rw [hs_1.1];exact aX _)
theorem A3{Q:Unit->aM->Prop}(hfr:A.frames=af (env::outer))(hl:s.heap.FunFrames base (env::outer))(hf:env.frame=af L)(he:s.heap.get? e=af oe)(hd:oe.data= .fields vs)(h1:vs[1]? =af .none)
  (h:∀h' T oT ts,jr [e] ((env::outer).filterMap (·.frame)) s.heap h'->s.heap.get? T=ae->T≠e->h'.get? e=af (oe.mapFields (·.setIfInBounds 1 (.ref T)))->h'.get? T=af oT->oT.data= .fields ts->3<ts.size->Q () {s with heap:=h'}):
  wpAny M A (sz (.ref e) env) Q E s:=by
 dsimp only [sz];simp only [hf];refine aB (kc he hd h1 ?_);refine (if_neg (show¬((cq != cq)=ao) from by simp))▸ ?_;exact CS hfr hl hf he hd (dM.mp h1).1 h
theorem HA{Q:Unit->aM->Prop}{T_0:bk}{o_0:Obj}{JL:Array ay}(hfr:A.frames=af (env::outer))(hl:s.heap.FunFrames base (env::outer))(hf:env.frame=af L)(he:s.heap.get? e=af oe)(hd:oe.data= .fields vs)(h1:vs[1]? =af (.ref T_0))
  (Lx:T_0≠e) (hT:s.heap.get? T_0=af o_0) (Ln:o_0.data= .fields JL) (h3:JL[3]? =af .none)
  (h:∀h' T oT ts,jr [e,T_0] ((env::outer).filterMap (·.frame)) s.heap h'->s.heap.get? T=ae->T≠e->h'.get? e=af (oe.mapFields (·.setIfInBounds 1 (.ref T)))->h'.get? T=af oT->oT.data= .fields ts->3<ts.size->Q () {s with heap:=h'}):
  wpAny M A (sz (.ref e) env) Q E s:=by
 dsimp only [sz];simp only [hf];refine aB (kc he hd h1 ?_);refine (if_pos (show (cC T_0 != cq)=ao from by simp))▸ ?_;refine aB (kc hT Ln h3 ?_);refine (if_neg (show¬((cq==xd L)=ao) from by simp [xd]))▸ ?_;refine aB (l9 hT Ln (dM.mp h3).1 ?_);have other:∀b,b≠T_0->(s.heap.update T_0 (gR (·.setIfInBounds 3 cq))).get? b=s.heap.get? b:=λb hb=>jj _ _ (yn hb);have OJ:∀b o,s.heap.get? b=af o->(∀vs,o.data≠ .fields vs)->b≠T_0:=λb o hb hnf q=>by
  rw [q,hT] at hb;injection hb with hb;subst hb;exact hnf JL Ln
 refine CS (hadNext:=true) hfr (hl.of_keeps λb o hb hnf=>⟨o,(other b (OJ b o hb hnf)).trans hb,rfl⟩) hf ((other e (yn Lx)).trans he) hd (dM.mp h1).1 λh' T oT ts hN Ss Zu he' Yt Ru hz=>?_;refine h h' T oT ts ⟨λb o hb hf' EE=>?_,λb o hb hf' EE=>?_⟩ ?_ Zu he' Yt Ru hz
 ·exact hN.keep b o (λq=>hb (by simp at q;simp [q])) hf' ((other b (λq=>hb (by simp [q]))).trans EE)
 ·exact hN.wN b o (λq=>hb (by simp at q;simp [q])) hf' ((other b (λq=>hb (by simp [q]))).trans EE)
 ·induction q:s.heap.get? T using aw with
  |none=>rfl
  |some o=>
   by_cases hb:T=T_0
   ·subst hb;have:=fS (gR (·.setIfInBounds 3 cq)) hT (mC (g9 Ln _));rw [show (s.heap.update T (gR (·.setIfInBounds 3 cq))).get? T=ae from Ss] at this;exact nn this
   ·have:=(other T hb).trans q;rw [show (s.heap.update T_0 (gR (·.setIfInBounds 3 cq))).get? T=ae from Ss] at this;exact nn this
theorem pb{Q:Unit->aM->Prop}{T:bk}{oT:Obj}{ts:Array ay}(he:s.heap.get? e=af oe)(hd:oe.data= .fields vs)(h1:vs[1]? =af (.ref T))(hT:s.heap.get? T=af oT)(Ln:oT.data= .fields ts)(hz:3<ts.size)
  (h:∀h' Zv ts',jr [T] [] s.heap h'->h'.get? T=af Zv->Zv.data= .fields ts'->ts'[3]? =af .none->ts'.size=ts.size->Q () {s with heap:=h'}):wpAny M A (setFlight (.ref e) ae) Q E s:=by
 dsimp only [setFlight];refine aB (kc he hd h1 ?_);refine (if_pos (show (cC T != cq)=ao from by simp))▸ ?_;have Ru:=g9 Ln (·.setIfInBounds 3 ((ae:Option bk).elim cq λf=>xd f));refine l9 hT Ln hz (h _ _ _ ⟨λb o hb _ EE=>(jj _ _ (λq=>hb (by simp [q]))).trans EE,λb o _ hf _=>nomatch hf⟩ (fS _ hT (mC Ru)) Ru (by simp [hz]) (by simp))
end
section
variable{s_0:aM}{S:List bk}
theorem Step.xO(x:Step ρ (wr up env) s_0 ρ' s)(hS:∀a∈S,s_0.heap.get? a=ae)(hN:jr S up.kE s.heap h'):Step ρ (wr up env) s_0 ρ' {s with heap:=h'}:=by
 have ne:∀b o,s_0.heap.get? b=af o->b∉S:=λb o h hb=>by rw [hS b hb] at h;exact nn h
 refine ⟨x.ext,λb o h=>?_,λb o h h1 h2=>?_,λb hb hl o h=>?_,x.gens,x.os,x.drawn⟩
 ·obtain ⟨o',h'⟩:=x.live b o h;by_cases hf:b∈up.kE
  ·refine aR (hN.wN b o' (ne b o h) hf h') λO6 h'' _=>?_;exact ⟨O6,h''⟩
  ·exact ⟨o',hN.keep b o' (ne b o h) hf h'⟩
 ·exact hN.keep b o (ne b o h) (λhf=>h2 (cI _ hf)) (x.keep b o h h1 h2)
 ·refine aR (x.wN b hb hl o h) λo' h' d'=>?_;refine aR (hN.wN b o' (ne b o h) hb h') λO6 h'' d''=>?_;exact ⟨O6,h'',d''.trans d'⟩
theorem Fits.xO(F:Fits B ρ σ fr up env fl s)(hN:jr S up.kE s.heap h')(hO:∀a∈S,a∉own env/\B.h₀.get? a=ae/\a∉up.kE)(hρ:∀(i:Nat) (o:O) (a:bk),σ[i]? =af o->ρ[i]? =af a->a∈S->∃r,h'.get? a=af r/\ou B.pr B.w ρ o r):Fits B ρ σ fr up env fl {s with heap:=h'}:=by
 have Xf:∀a,a∈own env->a∉S:=λa ha hs=>(hO a hs).1 ha;have base:∀b o,B.h₀.get? b=af o->b∉S/\b∉up.kE:=λb o h=>⟨(λhs=>by rw [(hO b hs).2.1] at h;exact nn h),(λhf=>by rw [(F.Dt b hf).1] at h;exact nn h)⟩;have cell:∀(c:bk) (o:Obj),c∈env.cells.map (·.2)->s.heap.get? c=af o->h'.get? c=af o:=λc o hc h=>hN.keep c o (Xf c (i8 _ hc)) (λhf=>(F.Dt c hf).2.2.1 hc) h;refine ⟨⟨F.rep.len,F.rep.nd,F.rep.new,λi o ho=>?_,λb o hb=>hN.keep b o (base b o hb).1 (base b o hb).2 (F.rep.keep b o hb)⟩,⟨?_,λx hx=>?_,λx hx=>?_,F.mv.OZ⟩,F.ok,F.rM,F.oW,λa ha=>?_,F.mF,F.oY,F.gens,F.L8,λL hL=>?_⟩
 ·refine ck (F.rep.obj i o ho) λa r h1 h2 h3=>?_;by_cases hs:a∈S
  ·refine aR (hρ i o a ho h1 hs) λr' g1 g2=>?_;exact ⟨a,r',h1,g1,g2⟩
  ·exact ⟨a,r,h1,hN.keep a r hs (λhf=>(F.Dt a hf).2.1 (bN h1)) h2,h3⟩
 ·refine aR F.mv.loc λm q'2 hm=>?_;obtain ⟨o,es,n,h1,h2,h3⟩:=q'2;by_cases hf:env.locals∈up.kE
  ·refine aR (hN.wN _ o (Xf _ (fm ..)) hf h1) λo' Ik d'=>?_;exact ⟨m,⟨o',es,n,Ik,d'.trans h2,h3⟩,hm⟩
  ·exact ⟨m,⟨o,es,n,hN.keep _ o (Xf _ (fm ..)) hf h1,h2,h3⟩,hm⟩
 ·refine d7 (F.mv.G9 x hx) λk r'3=>?_;refine b9 r'3 λc o v h1 h2 h3 h4=>?_;exact ⟨k,c,o,v,h1,cell c o (mem_lookup h1) h2,h3,h4⟩
 ·refine d7 (F.mv.EU x hx) λk r'4=>?_;refine b9 r'4 λc o v h1 h2 h3 h4=>?_;exact ⟨k,c,o,v,h1,cell c o (mem_lookup h1) h2,h3,h4⟩
 ·obtain ⟨o,h⟩:=F.jK a ha;by_cases hf:a∈up.kE
  ·refine aR (hN.wN _ o (Xf _ ha) hf h) λo' Ik _=>?_;exact ⟨o',Ik⟩
  ·exact ⟨o,hN.keep _ o (Xf _ ha) hf h⟩
 ·refine iA (F.Dt L hL) λh3 h4 h5 r'5=>?_;refine gj r'5 λo es n h6 h7=>?_;refine aR (hN.wN _ o (λhs=>(hO L hs).2.2 hL) hL h6) λo' Ik d'=>?_;exact ⟨h3,h4,h5,o',es,n,Ik,d'.trans h7⟩
theorem Fits.yT(F:Fits B ρ σ fr up env fl s):s.heap.FunFrames B.h₀ fl:=by
 have:∀l:List Env,(∀e∈l,e∈fl)->s.heap.FunFrames B.h₀ l:=by
  intro l;induction l with
  |nil=>intro _;trivial
  |cons e r ih=>
   intro h;refine d7 (F.kE e (h e (fm ..))) λh1 r'6=>?_;refine LA r'6 λL h2 h3 h4 h5 r'7=>?_;refine gj r'7 λo es n h6 h7=>?_;exact ⟨h1,⟨L,o,h2,h3,h6,λvs q=>by rw [h7] at q;injection q⟩,ih λx hx=>h x (i8 _ hx)⟩
 exact this fl λ_ h=>h
theorem Fits.ML(F:Fits B ρ σ fr up env fl s):∀b,b∈fl.filterMap (·.frame)->b∈up.kE:=λb hb=>by
 refine aR (List.mem_filterMap.mp hb) λe he h=>?_;refine d7 (F.L8 e he) λ_ r'8=>?_;refine aR r'8 λL h2 h3=>?_;rw [h3] at h;obtain ⟨⟩:=h;exact h2
theorem jr.mono{S S' kE frs':List bk}(x:jr S kE h h')(hS:∀a∈S,a∈S')(hf:∀a∈kE,a∈frs'):jr S' frs' h h':=
 ⟨λb o h1 h2 e=>x.keep b o (λq=>h1 (hS b q)) (λq=>h2 (hf b q)) e,λb o h1 h2 e=>by
  by_cases hb:b∈kE
  ·exact x.wN b o (λq=>h1 (hS b q)) hb e
  ·exact ⟨o,x.keep b o (λq=>h1 (hS b q)) hb e,rfl⟩⟩
theorem jr.trans{S kE:List bk}{h_1 h_2 h_3:pO}(x:jr S kE h_1 h_2)(y:jr S kE h_2 h_3):jr S kE h_1 h_3:=
 ⟨λb o h1 h2 e=>y.keep b o h1 h2 (x.keep b o h1 h2 e),λb o h1 h2 e=>let ⟨o',e',d'⟩:=x.wN b o h1 h2 e;let ⟨O6,Xc,d''⟩:=y.wN b o' h1 h2 e';⟨O6,Xc,d''.trans d'⟩⟩
theorem jr.refl{S kE:List bk}:jr S kE h h:=⟨λ_ _ _ _ e=>e,λ_ o _ _ e=>⟨o,e,rfl⟩⟩
end
theorem Fp:∀{xs:List ay}{ds:List V},xs.mapM kj=af ds->bM [] ds xs
 | [],ds,h=>by simp at h;subst h;trivial
 |x::xs,ds,h=>by
  rw [List.mapM_cons] at h;induction hx:kj x using aw with
  |none=>rw [hx] at h;exact nn h
  |some v=>
   rw [hx] at h;induction hxs:xs.mapM kj using aw with
   |none=>rw [hxs] at h;exact nn h
   |some vs=>
    rw [hxs] at h;(injection h with h;subst h);exact ⟨.kj hx,Fp hxs⟩
theorem mX:∀{names:List (Str × ir)}{n:Nat}{acc:List (Str × bk)}{x:Str},((x,Cv)∈names∨∃c,(x,c)∈acc)->∃c,(x,c)∈gH n names acc
 | [],n,acc,x,h=>by
  rcases h with h|h
  ·cases h
  ·exact h
 |(y,k)::r,n,acc,x,h=>by
  dsimp only [gH];split
  ·rename_i hk
   refine mX ?_;rcases h with h|⟨c,h⟩
   ·rcases jJ h with e|h
    ·obtain ⟨⟩:=e;exact .inr ⟨n,fm ..⟩
    ·exact .inl h
   ·exact .inr ⟨c,i8 _ h⟩
  ·rename_i hk
   refine mX ?_;rcases h with h|⟨c,h⟩
   ·rcases jJ h with e|h
    ·obtain ⟨⟩:=e;exact absurd rfl hk
    ·exact .inl h
   ·exact .inr ⟨c,h⟩
theorem pd:∀{l:List (Str × β)}{x:Str}{c:β},(x,c)∈l->∃c',l.lookup x=af c'
 |(y,d)::r,x,c,h=>by
  rw [cz];induction hx:x==y using cG with
  |true=>exact ⟨d,rfl⟩
  |false=>
   rcases jJ h with e|h
   ·obtain ⟨⟩:=e;simp at hx
   ·exact pd h
noncomputable def V3(up:Up):Wr:=⟨up.kE,up.fz,[],up.kE⟩
theorem step_alloc{W:Wr}{r:Obj}:Step ρ W s (ρ++ [s.heap.objs.size]) {s with heap:=s.heap.push r,toks:=tk}:=
 ⟨⟨_,rfl,λa ha=>by simp at ha;subst ha;exact lx⟩,λb o e=>⟨o,aP _ e⟩,λb o e _ _=>aP _ e,λ_ _ _ o e=>⟨o,aP _ e,rfl⟩,rfl,rfl,rfl⟩
theorem Fits.ret{env':Env}{tZ:List Env}{sc:Scope}{vals:eB}{L:bk}{ρ_1:List bk}{s₁:aM}(F:Fits B ρ σ fr up env fl s)(hk:∀b o,s.heap.get? b=af o->s₁.heap.get? b=af o)(hρ:∃m,ρ_1=ρ++m/\∀a∈m,s.heap.objs.size<=a)
  (hown:∀a∈own env',s.heap.objs.size<=a) (hL:s.heap.objs.size<=L) (x:Step ρ_1 (wr ⟨sc,vals,up.fz,L::up.kE⟩ env') s₁ ρ' s') (F':Fits B ρ' σ' et ⟨sc,vals,up.fz,L::up.kE⟩ env' tZ s') (hg:s₁.gens=s.gens/\s₁.os=s.os/\s₁.drawn=s.drawn):
  Step ρ (wr up env) s ρ' s'/\Fits B ρ' σ' fr up env fl s'/\Step ρ (V3 up) s ρ' s':=by
 have ae:∀a,s.heap.objs.size<=a->s.heap.get? a=ae:=λa ha=>by
  induction q:s.heap.get? a using aw with
  |none=>rfl
  |some o=>exact absurd (du q) (cD.mpr ha)
 have ne:∀a b o,s.heap.objs.size<=a->s.heap.get? b=af o->b≠a:=λa b o ha h e=>by subst e;rw [ae _ ha] at h;exact nn h
 refine aR hρ λm e hm=>?_;refine aR x.ext λm' e' hm'=>?_;have Xg:∀b o,s.heap.get? b=af o->b∉own env':=λb o hb h=>ne b b o (hown b h) hb rfl;have UT:∀b o,s.heap.get? b=af o->b∉ρ->b∉ρ_1:=λb o hb h1 h2=>by
  rw [e] at h2;rcases aG.mp h2 with h|h
  ·exact h1 h
  ·exact ne _ _ _ (hm b h) hb rfl
 have kept:∀b o,s.heap.get? b=af o->(b∉ρ∨∃i∈up.fz,ρ[i]? =af b)->b∉up.kE->s'.heap.get? b=af o:=λb o hb h1 h3=>by
  refine x.keep b o (hk b o hb) ?_ ?_
  ·rcases h1 with h1|⟨i,hi,h1⟩
   ·exact .inl (UT b o hb h1)
   ·exact .inr ⟨i,hi,Ext.at ⟨m,e⟩ h1⟩
  ·intro h;rcases aG.mp h with h|h
   ·exact Xg b o hb h
   ·rcases jJ h with h|h
    ·exact ne L b o hL hb h
    ·exact h3 h
 have wN:∀b∈up.kE,∀o,s.heap.get? b=af o->∃o',s'.heap.get? b=af o'/\o'.data=o.data:=λb hb o h=>x.wN b (i8 _ hb) (Xg b o h) o (hk b o h);have stC:Step ρ (V3 up) s ρ' s':=by
  refine ⟨⟨m++m',by rw [e',e,aQ],λa ha=>?_⟩,λb o hb=>x.live b o (hk b o hb),λb o hb h1 h2=>kept b o hb h1 h2,λb hb _ o h=>wN b hb o h,x.gens.trans hg.1,x.os.trans hg.2.1,x.drawn.trans hg.2.2⟩;rcases aG.mp ha with ha|ha
  ·exact ae a (hm a ha)
  ·induction q:s.heap.get? a using aw with
   |none=>rfl
   |some o=>have:=hk a o q;rw [hm' a ha] at this;exact nn this
 have st:Step ρ (wr up env) s ρ' s':=⟨stC.ext,stC.live,λb o hb h1 h2=>stC.keep b o hb h1 λh=>h2 (cI _ h),λb hb _ o h=>wN b hb o h,stC.gens,stC.os,stC.drawn⟩;have cell:∀(c:bk) (o:Obj),c∈env.cells.map (·.2)->s.heap.get? c=af o->s'.heap.get? c=af o:=λc o hc h=>kept c o h (.inl (F.rM c (i8 _ hc))) λh=>(F.Dt c h).2.2.1 hc;refine ⟨st,F.step st F'.rep ⟨?_,λy hy=>?_,λy hy=>?_,F.mv.OZ⟩,stC⟩
 ·refine aR F.mv.loc λmm q'1 OF=>?_;obtain ⟨o,es,n,h1,h2,h3⟩:=q'1;by_cases hfr:env.locals∈up.kE
  ·refine aR (wN _ hfr o h1) λo' Xc d''=>?_;exact ⟨mm,⟨o',es,n,Xc,d''.trans h2,h3⟩,λy hy=>⟨(OF y hy).1,(OF y hy).2.ext st.ext'⟩⟩
  ·exact ⟨mm,⟨o,es,n,kept _ _ h1 (.inl (F.rM _ (fm ..))) hfr,h2,h3⟩,λy hy=>⟨(OF y hy).1,(OF y hy).2.ext st.ext'⟩⟩
 ·refine d7 (F.mv.G9 y hy) λk' r'2=>?_;refine b9 r'2 λc o v h1 h2 h3 h4=>?_;exact ⟨k',c,o,v,h1,cell c o (mem_lookup h1) h2,h3,h4.ext st.ext'⟩
 ·refine d7 (F.mv.EU y hy) λk' r'3=>?_;refine b9 r'3 λc o v h1 h2 h3 h4=>?_;exact ⟨k',c,o,v,h1,cell c o (mem_lookup h1) h2,h3,h4.ext st.ext'⟩
theorem Fits.call{sc:Scope}{qual:Str}{fn:Option bk}{code:ay}{bs:List (Str × V)}{env':Env}(F:Fits B ρ σ fr up env fl s)(hkind:sc.kind= .function)(hfree:∀p∈sc.names,p.2≠ .free)(hks:Ab sc bs=ao)(hnd:((gH 0 sc.names []).map (·.1)).Nodup)
  (he:env'=newEnv sc s.heap.objs.size gu (gH (s.heap.objs.size+1) sc.names []) qual fn code ae builtinsNs) (hb:cY ρ bs bv)
  (x:InCallC s env'.locals (PySem.bindL env'.kindOf bv λ_=>ae) env'.cells (PySem.bindC env'.kindOf bv λ_=>ae) s'):
  Fits B ρ σ (putAll [] bs) ⟨sc,[],up.fz,s.heap.objs.size::up.kE⟩ env' (env'::fl) s'/\(∀a∈own env',s.heap.objs.size<=a)/\env'.frame=af env'.locals/\env'.locals=s.heap.objs.size:=by
 have hlo:env'.locals=s.heap.objs.size:=by refine he▸ ?_;rfl
 have OK:env'.frame=af env'.locals:=by refine he▸ ?_;rfl
 have hsc:env'.scope=sc:=by refine he▸ ?_;rfl
 have hkd:∀y,env'.kindOf y=sc.names.lookup y:=λy=>by refine he▸ ?_;rfl
 have hcl:env'.cells=gH (s.heap.objs.size+1) sc.names []:=by refine he▸ ?_;rfl
 have hkb:∀p∈bs,env'.kindOf p.1=af .local∨env'.kindOf p.1=af .cell:=λp hp=>by
  have:=bK.mp hks p hp;rw [eA,decide_eq_true_eq,decide_eq_true_eq] at this;rw [hkd];exact this
 have above:∀a∈own env',s.heap.objs.size<=a:=λa ha=>by
  rcases jJ ha with rfl|ha
  ·exact ar hlo.symm
  ·refine aR (aT.mp ha) λq'4 hp q'5=>?_;obtain ⟨n,c⟩:=q'4;obtain rfl:=q'5;have:=x.above n c hp;rw [hlo] at this;exact bS this
 have keep:=x.toInCall.keep;have fresh:∀a,s.heap.objs.size<=a->Hid B ρ env up a:=λa ha=>F.o4 ha;have nsL:=x.toInCall.ns;refine jo (id nsL) λoL esL nL gL1 gL2 gL3=>?_;refine gk x.done λh_1 tk hs' _=>?_;refine ⟨⟨F.rep.other λb o e _=>keep b o e,⟨⟨_,nsL,λy hy=>⟨?_,?_⟩⟩,λy hy=>⟨?_,?_⟩,λy hy=>?_,λy hy=>?_⟩,⟨?_,?_,?_⟩,λa ha=>(fresh a (above a ha)).ρ,λa ha=>(fresh a (above a ha)).base,λa ha=>?_,λh=>?_,λy z c h1 h2=>?_,?_,λe' he'=>?_,λL' hL'=>?_⟩,above,OK,hlo⟩
 ·rw [hkd];exact hy
 ·exact Hz hb (by rw [hkd];exact hy) hkb trivial
 ·rw [hkd];exact hy
 ·obtain ⟨c,hc⟩:=mX (n:=s.heap.objs.size+1) (acc:=[]) (.inl (mem_of_lookup (show sc.names.lookup y=af .cell from hy)));obtain ⟨c',hc'⟩:=pd hc;rw [←hcl] at hc';refine aR (x.cell y c' hc') λo ho hd=>?_;exact ⟨c',o,_,hc',ho,hd,Fo hb (by rw [hkd];exact hy) hkb trivial⟩
 ·exact absurd rfl (hfree _ (mem_of_lookup (show sc.names.lookup y=af .free from hy)))
 ·rw [hkd];exact hy
 ·refine hsc▸ ?_;exact hkind
 ·refine he▸ ?_;rfl
 ·refine he▸ ?_;rfl
 ·rcases jJ ha with rfl|ha
  ·exact ⟨oL,gL1⟩
  ·refine aR (aT.mp ha) λq'6 hp q'7=>?_;obtain ⟨n,c⟩:=q'6;obtain rfl:=q'7;refine aR (x.cell n c (by rw [hcl] at hp ⊢;exact lookup_of_mem_nodup (cellsFrom_names sc.names 0 (s.heap.objs.size+1) [] [] rfl▸hnd) hp)) λo ho _=>?_;exact ⟨o,ho⟩
 ·refine aR (aT.mp h) λq'8 hp hc=>?_;obtain ⟨n,c⟩:=q'8;simp only at hc;subst hc;exact absurd (x.above n _ hp) (aX _)
 ·exact name_of_addr x.apart (mem_of_lookup h1) (mem_of_lookup h2)
 ·refine hs'▸ ?_;exact F.gens
 ·rcases jJ he' with rfl|he'
  ·refine ⟨by rw [hsc,hkind];decide,s.heap.objs.size,fm ..,by rw [OK,hlo]⟩
  ·refine d7 (F.L8 e' he') λh1 r'9=>?_;refine aR r'9 λL' h2 h3=>?_;exact ⟨h1,L',i8 _ h2,h3⟩
 ·rcases jJ hL' with rfl|hL'
  ·refine ⟨(fresh _ (ax _)).base,(fresh _ (ax _)).ρ,λh=>?_,oL,esL,nL,by refine (hlo).symm▸ ?_;exact gL1,gL2⟩;refine aR (aT.mp h) λq'10 hp hc=>?_;obtain ⟨n,c⟩:=q'10;simp only at hc;have:=x.above n c hp;rw [hlo,hc] at this;exact absurd this (aX _)
  ·refine iA (F.Dt L' hL') λh3 h4 h5 r'11=>?_;refine gj r'11 λo es n h6 h7=>?_;refine ⟨h3,h4,λh=>?_,o,es,n,keep _ _ h6,h7⟩;refine aR (aT.mp h) λq'12 hp hc=>?_;obtain ⟨n,c⟩:=q'12;simp only at hc;have:=x.above n c hp;rw [hlo,hc] at this;exact absurd (aD this (du h6)) (aX _)
theorem Ky{K:r8}{fd:kS}(h:SY K fd=ao):fd.params.posonlyargs= []/\fd.params.kwonlyargs= []/\fd.params.kwarg=ae/\fd.closure= []/\fd.globals=gu/\fd.builtins=builtinsNs/\fd.scope.kind= .function/\fd.scope.isGenerator=bf/\fd.scope.isCoroutine=bf/\
  codeIn K fd=ao/\((gH 0 fd.scope.names []).map (·.1)).Nodup/\∀p∈fd.scope.names,p.2≠ .free:=by
 unfold SY at h;simp only [aS,decide_eq_true_eq,sb,hY,lX,bK] at h;obtain ⟨⟨⟨⟨⟨⟨⟨⟨⟨⟨⟨h1,h2⟩,h3⟩,h4⟩,h5⟩,h6⟩,h7⟩,h8⟩,h9⟩,Xh⟩,h11⟩,h12⟩:=h;exact ⟨h1,h2,h3,h4,h5,h6,h7,h8,h9,Xh,h11,h12⟩
theorem P5{K:r8}{fd:kS}(X:K.In h)(e:codeIn K fd=ao):h.CodeRec fd.code fd.qualname:=by
 refine eY (iK e) λcc h1 e=>?_;refine eY e λvs h2 e=>?_;have hcc:=IU h1;obtain ⟨t,d,sl,hl⟩:=Tg h2;obtain ⟨tq,hq⟩:=VM e;exact ⟨cc,_,vs,tq,by injection hcc with hcc;injection hcc,X _ _ hl,rfl,hq⟩
theorem MM{K:r8}{M:Model}{v:ay}{pM:List V}(X:K.In s.heap)(e:IM K v=af pM):∃dv,bM [] pM dv/\∀(Q:Option (Array ay)->aM->Prop),Q (af dv.toArray) s->(dv= []->Q ae s)->wpAny M A (zj v) Q E s:=by
 induction v using iN with
 |none=>
  (injection e with e;subst e);exact ⟨[],trivial,λQ _ h=>aB (bF (bF (h rfl)))⟩
 |ref a=>
  refine eY e λl h1 e=>?_;refine sO (VL h1) λt d xs r'=>?_;refine gk r' λn sl hl q'1=>?_;subst q'1;exact ⟨xs.toList,Fp e,λQ h _=>vm (X _ _ hl) rfl (by simpa using h)⟩
 |_=>exact nn e
theorem Kz{x:Str × ay}{bs:List (Str × V)}(h:cY ρ bs bv)(hx:x∈bv):∃v,(x.1,v)∈bs:=
 h.by (P:=λbs bv=>x∈bv->∃v,(x.1,v)∈bs) (λh=>nomatch h) (λa v bs w bv _ _ ih hx=>by
  rcases jJ hx with rfl|hx
  ·exact ⟨v,fm ..⟩
  ·exact el (ih hx) λv hv=>⟨v,i8 _ hv⟩) hx
def KD(B:lH)(env:Env)(fl:List Env)(up:Up)(ρ:List bk)(s:aM)(fr:eB)(os':List O)(r:CR)(R:BL->aM->Prop):Prop:=match r with
 | .ret v=>∀ρ' s' x,Step ρ (wr up env) s ρ' s'->Step ρ (V3 up) s ρ' s'->Fits B ρ' os' fr up env fl s'->cB ρ' v x->R (.ok (.ret x)) s'
 | .exc i=>∀ρ' s' x,Step ρ (wr up env) s ρ' s'->Fits B ρ' os' fr up env fl s'->cB ρ' (.ref i) x->RX ρ' s s' x->R (.error x) s'
theorem HB(ze:ej c B)(hex:∀b,lK B c ⟨n,ao⟩ b){fa:bk}{t:ay}{d:Option bk}{fd:kS}(hK:B.K.lookup fa=af ⟨t,d,.func fd,sl⟩){r:CR}
  (e:LX c fd as σ up.fz=af (r,os')) {A:iW}{ρ:List bk}{s:aM}{R:BL->aM->Prop}{vals:List ay}(Im:A.depth+(2*n+1)<recursionLimit) (hun:A.units+20*n+210<cLine) (hh:A.handled=ae) (a:A.frames=af fl) (F:Fits B ρ σ fr up env fl s) (hv:bM ρ as vals)
  (q:KD B env fl up ρ s fr os' r R):gP (model B.pr B.w) A (.call (.ref fa) ⟨vals,[]⟩) R s:=by
 refine Tb e λXi e=>?_;rw [ze.K] at Xi e;refine iQ (Ky (by simpa using Xi)) λh1 h2 h3 h4 h5 r'1=>?_;refine iQ r'1 λh6 h7 h8 h9 Xh r'2=>?_;refine d7 r'2 λh11 h12=>?_;refine eY e λpM hdf e=>?_;refine eY e λbody hb e=>?_;have hb:=Tf hb;refine eY e λp hbc e=>?_;obtain ⟨C7,s₁⟩:=p;refine aR (MM (M:=model B.pr B.w) (A:=A.in1) (E:=λe s'=>R (.error e) s') F.isIn hdf) λdv hdv hseq=>?_;have UX:bM ρ pM dv:=hdv.ext ⟨ρ,by simp⟩;refine codeAny_call_function (by exact aW (aF _ _) Im) (F.isIn _ _ hK) rfl h9 h8 hb (P5 F.isIn Xh) ?_;have run:∀(ρ_1:List bk) (σ_1:List O) (t_1:aM) (bs:List (Str × V)) (bv:List (Str × ay)),s₁.os=σ_1->C7=putAll [] bs->Fits B ρ_1 σ_1 fr up env fl t_1->Step ρ (wr up env) s ρ_1 t_1->Step ρ (V3 up) s ρ_1 t_1->Ab fd.scope bs=ao->cY ρ_1 bs bv->
   wpAny (model B.pr B.w) A.in1 (newFunctionEnv fd.scope fd.globals fd.closure bv (fd.qualname++ ".<locals>.") (af fa) fd.code ae fd.builtins) (λenv s_2=>s_2.heap.NoLimit/\gP (model B.pr B.w) A (.func body env) R s_2) (λe s'=>R (.error e) s') t_1:=by
  intro ρ_1 σ_1 t_1 bs bv hσ hfr F_1 gp stC hks Xj;subst hσ hfr;rw [h4,h5,h6];have hkv:∀x∈bv,fd.scope.names.lookup x.1=af .local∨(fd.scope.names.lookup x.1=af .cell/\((gH (t_1.heap.objs.size+1) fd.scope.names []).lookup x.1).isSome=ao):=λx hx=>by
   have:∃v,(x.1,v)∈bs:=Kz Xj hx;obtain ⟨v,hm⟩:=this;have:=bK.mp hks _ hm;rw [eA,decide_eq_true_eq,decide_eq_true_eq] at this;rcases this with h|h
   ·exact .inl h
   ·obtain ⟨cc,hcc⟩:=mX (n:=t_1.heap.objs.size+1) (acc:=[]) (.inl (mem_of_lookup h));obtain ⟨c',hc'⟩:=pd hcc;exact .inr ⟨h,by simp only at hc';refine hc'▸ ?_;rfl⟩
  refine wpAny_newFunctionEnv_cells h7 hkv λenv' he s' x=>?_;refine iA (F_1.call (fn:=af fa) h7 h12 hks h11 he Xj x) λFC above OK hlo=>?_;refine gk x.done λhh' tk' hs' _=>?_;refine ⟨(B.lim.keeps F_1.base).keeps x.toInCall.keep,codeAny_func ?_⟩;have rm':kF (A.deeper env') ⟨n,ao⟩:=⟨by show A.depth+1+2*n<_;exact Vj Im,by show A.units+3+20*n+200<_;exact aW (ai (ar (congrArg (· +200) (aN _ 3 _))) (bE (ak rfl:203<=210) _)) hun,λ_=>hh⟩;have a':(A.deeper env').frames=af (env'::fl):=Around.frames_deeper a;refine eY e λp hx e=>?_
  ·obtain ⟨f,s_2⟩:=p;have back:∀{ρ' s'' et},Step ρ_1 (wr ⟨fd.scope,[],up.fz,t_1.heap.objs.size::up.kE⟩ env') s' ρ' s''->Fits B ρ' s_2.os et ⟨fd.scope,[],up.fz,t_1.heap.objs.size::up.kE⟩ env' (env'::fl) s''->Step ρ_1 (wr up env) t_1 ρ' s''/\Fits B ρ' s_2.os fr up env fl s''/\Step ρ_1 (V3 up) t_1 ρ' s'':=λst' F'=>
    F_1.ret x.toInCall.keep ⟨[],by simp,λ_ h=>nomatch h⟩ above (ax _) st' F' (by refine hs'▸ ?_;exact ⟨rfl,rfl,rfl⟩)
   refine hex body env' (env'::fl) ⟨fd.scope,[],up.fz,t_1.heap.objs.size::up.kE⟩ _ _ f s_2 ⟨OK,⟨fl,rfl⟩⟩ hx (A.deeper env') ρ_1 s' _ _ rm' a' FC ?_;induction f using Fl.casesOn with
   |next=>
    obtain ⟨⟩:=e;intro ρ' s'' tZ st' F' hf;subst hf;refine cW (back st' F') λst'' zd UY=>?_;exact q ρ' s'' .none (gp.trans st'') (stC.trans UY) zd rfl
   |ret v=>
    obtain ⟨⟩:=e;rintro ρ' s'' tZ st' F' ⟨y,rfl,hy⟩;refine cW (back st' F') λst'' zd UY=>?_;exact q ρ' s'' y (gp.trans st'') (stC.trans UY) zd hy
   |brk=>exact nn e
   |cont=>exact nn e
   |exc i=>
    obtain ⟨⟩:=e;rintro ρ' s'' y C tt st' F' hy ⟨ea,oe,vs,rfl,g1,g2,g3,g4⟩ hexc;refine cW (back st' F') λst'' zd _=>?_;have total:=gp.trans st'';refine aR hy λea' Xk OL=>?_;(injection OL with OL;subst OL);unfold leaving;refine aB (A3 a' F'.yT OK g2 g3 g4 λh_1 T oT ts hN hT Lx Gp hT_1 Ln hz=>?_);have hd_1:(oe.mapFields (·.setIfInBounds 1 (.ref T))).data= .fields (vs.setIfInBounds 1 (.ref T)):=g9 g3 _;have Gq:1<vs.size:=(dM.mp g4).1;refine pb (s:={s'' with heap:=h_1}) Gp hd_1 (by simp [Gq]) hT_1 Ln hz λh_2 Zv ts' Su Gr UZ Xl aaj=>?_;have Xm:t_1.heap.get? t_1.heap.objs.size=ae:=lx;have efr:s.heap.get? ea=ae:=by
     induction qq:s.heap.get? ea using aw with
     |none=>rfl
     |some o=>obtain ⟨o',h'⟩:=gp.live _ _ qq;have:=x.toInCall.keep _ _ h';rw [g1] at this;exact nn this
    have Tfr:s.heap.get? T=ae:=by
     induction qq:s.heap.get? T using aw with
     |none=>rfl
     |some o=>obtain ⟨o',h'⟩:=total.live _ _ qq;rw [hT] at h';exact nn h'
    have Lfr:s.heap.get? t_1.heap.objs.size=ae:=by
     induction qq:s.heap.get? t_1.heap.objs.size using aw with
     |none=>rfl
     |some o=>obtain ⟨o',h'⟩:=gp.live _ _ qq;rw [Xm] at h';exact nn h'
    have eT:t_1.heap.get? ea=ae:=by
     induction qq:t_1.heap.get? ea using aw with
     |none=>rfl
     |some o=>have:=x.toInCall.keep _ _ qq;rw [g1] at this;exact nn this
    have N1:jr [ea,T,t_1.heap.objs.size] up.kE s''.heap h_1:=by
     refine ⟨λb o hb hf EE=>hN.keep b o (λqq=>hb (by simp at qq;simp [qq])) (λhm=>?_) EE,λb o hb hf EE=>?_⟩
     ·have:=F'.ML b hm;rcases jJ this with rfl|hm
      ·exact hb (by simp)
      ·exact hf hm
     ·by_cases hm:b∈(env'::fl).filterMap (·.frame)
      ·exact hN.wN b o (λqq=>hb (by simp at qq;simp [qq])) hm EE
      ·exact ⟨o,hN.keep b o (λqq=>hb (by simp at qq;simp [qq])) hm EE,rfl⟩
    have N2:jr [ea,T,t_1.heap.objs.size] up.kE h_1 h_2:=Su.mono (by first|exact all1 (by first|exact .head _|exact .tail _ (.head _)|exact .tail _ (.tail _ (.head _)))|exact all2 (by first|exact .head _|exact .tail _ (.head _)|exact .tail _ (.tail _ (.head _))) (by first|exact .head _|exact .tail _ (.head _)|exact .tail _ (.tail _ (.head _)))) λb hb=>nomatch hb
    have N12:=N1.trans N2;have heh:h_2.get? ea=af (oe.mapFields (·.setIfInBounds 1 (.ref T))):=Su.keep _ _ (by simp;exact λhq=>Lx hq.symm) (λhq=>nomatch hq) Gp;have Tρ:T∉ρ':=λhm=>by
     have:=zd.rep.lt hm;obtain ⟨i',hi',OL⟩:=oh hm;have U0:i'<s_2.os.length:=zd.rep.len▸hi';refine ck (zd.rep.obj i' s_2.os[i'] (di U0)) λb' r' k1 k2 _=>?_;rw [di hi',OL] at k1;(injection k1 with k1;subst k1);rw [hT] at k2;exact nn k2
    have Zx:∀b∈ [ea,T,t_1.heap.objs.size],b∉own env/\B.h₀.get? b=ae/\b∉up.kE:=by
     intro b hb;have hnone:t_1.heap.get? b=ae:=O9 (P:=λb=>t_1.heap.get? b=ae) eT (by
      induction qq:t_1.heap.get? T using aw with
      |none=>rfl
      |some o=>obtain ⟨o',h'⟩:=st''.live _ _ qq;rw [hT] at h';exact nn h') Xm b hb
     refine ⟨λhm=>?_,?_,F_1.xD hnone⟩
     ·obtain ⟨o,ho⟩:=F_1.jK b hm;rw [hnone] at ho;exact nn ho
     ·induction qq:B.h₀.get? b using aw with
      |none=>rfl
      |some o=>have:=F_1.base _ _ qq;rw [hnone] at this;exact nn this
    refine q ρ' {s'' with heap:=h_2} (.ref ea) (total.xO (S:=[ea,T,t_1.heap.objs.size]) (O9 (by assumption) (by assumption) (by assumption)) N12) (zd.xO N12 Zx λj o b hj OM hb=>?_) ⟨ea,Xk,rfl⟩
     ⟨ea,T,_,_,_,_,rfl,efr,Tfr,Tρ,Lx,heh,hd_1,by simp [Gq],Gr,UZ,Xl⟩
    simp at hb;rcases hb with rfl|rfl|rfl
    ·have hlt:j<ρ'.length:=(cS.mp OM).1;have:j=i:=(iq hlt zd.rep.nd).mp (OM.trans Xk.symm);subst this;rw [hexc] at hj;(injection hj with hj;subst hj);refine ck (zd.rep.obj _ _ hexc) λb' r' k1 k2 r'3=>?_;refine ey r'3 λaa fs k3 k4 k5 k6=>?_;rw [OM] at k1;(injection k1 with k1;subst k1);rw [g2] at k2;(injection k2 with k2;subst k2);rw [g3] at k5;(injection k5 with k5;subst k5);exact ⟨_,heh,aa,_,k3,(ma _ _).trans k4,hd_1,by refine (mr (by decide)).trans ?_;exact k6⟩
    ·exact absurd (bN OM) Tρ
    ·exfalso;have hm:=bN OM;exact F'.rM env'.locals (fm ..) (by rw [hlo];exact hm)
 unfold bindC at hbc;split at hbc
 rotate_left
 ·exact nn hbc
 rename_i Zy
 refine Fn h1 h2 h3 hseq (by refine (Kx UX hv).symm.trans ?_;exact Zy) ?_;induction hva:fd.params.vararg using aw with
 |none=>
  rw [hva] at hbc;dsimp only at hbc;split at hbc
  ·rename_i hks
   obtain ⟨rfl,rfl⟩:=aK hbc;exact run ρ σ s _ _ rfl rfl F Step.refl Step.refl hks (CQ UX hv)
  ·exact nn hbc
 |some va=>
  rw [hva] at hbc;dsimp only at hbc;refine bQ hbc λtv s_3 h13 e3=>?_;refine cW (eQ h13) λhz q'4 q'5=>?_;obtain rfl:=q'4;obtain rfl:=q'5;split at e3
  ·rename_i hks
   obtain ⟨rfl,rfl⟩:=aK e3;have hz':=iK (show decide _=ao from hz);have hdr:bM ρ (as.drop fd.params.args.length) (vals.drop fd.params.args.length):=hv.drop _;have hl:=hdr.length;dsimp only;refine jS ?_ (by show (vals.drop fd.params.args.length).toArray.size<=2^24;rw [gB];exact Pa hl hz' rfl);refine cW (F.alloc (o:=.tuple (as.drop fd.params.args.length)) (r:={cls:=.type "tuple",data:=.seq (vals.drop fd.params.args.length).toArray}) ⟨_,0,rfl,by simpa using hdr,by rw [gB];exact ai (ar hl.symm) hz'⟩ s.toks) λb1 b2 b3=>?_;exact run _ _ _ _ _ rfl rfl b2 b1 step_alloc hks (cY.snoc b3 (CQ (UX.ext b1.ext') (hv.ext b1.ext')))
  ·exact nn e3
theorem MN{C:bk}:(A.under (.builtin "type.__call__" ⟨.ref C::vals,[]⟩)).depth=A.depth+1/\(A.under (.builtin "type.__call__" ⟨.ref C::vals,[]⟩)).frames=A.frames/\(A.under (.builtin "type.__call__" ⟨.ref C::vals,[]⟩)).handled=A.handled/\
  (A.under (.builtin "type.__call__" ⟨.ref C::vals,[]⟩)).units=A.units+1:=by
 refine ⟨rfl,?_,rfl,rfl⟩;show pushEnvs [] A.frames=A.frames;cases A.frames<;>rfl
theorem MO{r:CR}(h:Ac r=ao):r= .ret .none:=by
 induction r using CR.casesOn with
 |ret v=>induction v using V.casesOn<;>first|rfl|injection h
 |exc i=>injection h
theorem P6(ze:ej c B)(hex:∀b,lK B c ⟨n,ao⟩ b){C:bk}{t:ay}{d:Option bk}{cd:oS}(hK:B.K.lookup C=af ⟨t,d,.cls cd,sl⟩){r:CR}
  (e:IP c C cd as σ up.fz=af (r,os')) {A:iW}{ρ:List bk}{s:aM}{R:BL->aM->Prop}{vals:List ay}(Im:A.depth+(2*n+2)<recursionLimit) (hun:A.units+20*n+219<cLine) (hh:A.handled=ae) (a:A.frames=af fl) (F:Fits B ρ σ fr up env fl s) (hv:bM ρ as vals)
  (q:KD B env fl up ρ s fr os' r R):gP (model B.pr B.w) A (.call (.ref C) ⟨vals,[]⟩) R s:=by
 refine Tb e λhm0 e=>?_;rw [ze.K] at hm0 e;have hm:makesIn B.K C=ao:=by simpa using hm0
 refine eY e λf hf e=>?_;refine Tb e λZz e=>?_;have hfn:BN B.K (.ref f)=af (.type "function"):=by
  have:PySem.W.isFn B.K (.ref f)=ao:=by simpa using Zz
  dsimp only [PySem.W.isFn] at this;exact beq_iff_eq.mp this
 have hf:=IU hf;refine eY e λfd hfl e=>?_;refine sO (VK hfl) λt' d' OI hfl=>?_;refine eY e λp hdc e=>?_;refine Lu e λXn e=>?_;obtain ⟨r',Ew⟩:=p;obtain ⟨⟩:=e;obtain rfl:=MO Xn;obtain ⟨hp,g,dr,tk,os⟩:=s;refine make_core (makes_of F.isIn hm) (looks_findIn F.isIn hf) (λself=>bind_fn F.isIn self hfn) (.inl rfl) ?_;refine cW (F.alloc (o:=.ns []) (r:=emptyDict) ⟨#[],0,rfl,(λe he=>by simp at he),by dsimp only [UniqKeys];simp,λx=>rfl⟩ tk) λb1 b2 b3=>?_;refine iA (MN (A:=A) (C:=C) (vals:=vals)) λhu1 ZA hu3 hu4=>?_;have hd:(ρ++ [hp.objs.size])[σ.length]? =af hp.objs.size:=by refine (F.rep.len).symm▸ ?_;simp
 have hor:ou B.pr B.w (ρ++ [hp.objs.size]) (LY cd C σ.length) (instObj C hp.objs.size):=by
  dsimp only [LY];split
  ·exact ⟨hp.objs.size,hd,rfl⟩
  ·refine ⟨hp.objs.size,#[],hd,rfl,by exact iK rfl,λk=>?_⟩;have:((gw 5 (ae:Option V))[k]?).join=ae:=by
    refine (List.getElem?_replicate)▸ ?_;split<;>rfl
   rw [this];show ((#[]:Array (Option ay))[k]?).join=ae;rfl
 refine cW (b2.alloc (o:=LY cd C σ.length) (r:=instObj C hp.objs.size) hor tk) λc1 c2 c3=>?_;have hsz:(hp.push emptyDict).objs.size=hp.objs.size+1:=lZ ..;have hself:cB (ρ++ [hp.objs.size]++ [(hp.push emptyDict).objs.size]) (.ref (σ.length+1)) (.ref (hp.objs.size+1)):=by
  have:=c3;rw [aq,hsz] at this;simpa using this
 refine HB (n:=n) ze hex hfl (as:=.ref (σ.length+1)::as) (σ:=σ++ [O.ns []]++ [LY cd C σ.length]) (by rw [aQ];exact hdc) (by refine hu1▸ ?_;exact Vj Im) (hu4▸aW (ai (ar (congrArg (· +210) (aN _ 1 _))) (bE (ak rfl:211<=219) _)) hun) (hu3.trans hh) (ZA.trans a) c2 ⟨hself,(hv.ext b1.ext').ext c1.ext'⟩ ?_;intro ρ' s' x st' sc' F' hx;subst hx;exact ⟨rfl,q ρ' s' _ ((b1.trans c1).trans st') ((step_alloc.trans step_alloc).trans sc') F' (hself.ext st'.ext')⟩
theorem P7{K:r8}{ie:List bk}{fuel:Nat}(hK:B.K=K)(hex:∀b,lK B ⟨K,aj,callC K aj ie fuel n,fuel,ao,ie⟩ ⟨n,ao⟩ b)(ze:ej ⟨K,aj,callC K aj ie fuel n,fuel,ao,ie⟩ B):
  kG B ⟨K,aj,callC K aj ie fuel (n+1),fuel,hd,ie⟩ ⟨n+1,hd⟩:=by
 intro env fl up fr σ a as r os' e A ρ s Q E vals rm fa hh F hv q;have e':(match fdOf (K.lookup a) with
  |some fd=>LX ⟨K,aj,callC K aj ie fuel n,fuel,ao,ie⟩ fd as σ up.fz
  |none=>(Pe (K.lookup a)).bind λcd=>IP ⟨K,aj,callC K aj ie fuel n,fuel,ao,ie⟩ a cd as σ up.fz)=af (r,os'):=e
 have q':KD B env fl up ρ s fr os' r (λr s'=>match r with| .ok (.ret v)=>Q v s'| .ok _=>False| .error e=>E e s'):=by
  induction r using CR.casesOn with
  |ret v=>exact λρ' s' x st _ F hx=>q ρ' s' x st F hx
  |exc i=>exact λρ' s' x st F hx hf=>q ρ' s' x st F hx hf
 have Im:A.depth+2*(n+1)<recursionLimit:=rm.depth;have hun:A.units+20*(n+1)+200<cLine:=rm.units;induction hq:fdOf (K.lookup a) using aw with
 |some fd=>
  rw [hq] at e';refine sO (VK hq) λt d sl hl=>?_;exact HB (n:=n) ze hex (by rw [hK];exact hl) e' (by exact Nat.lt_of_succ_lt Im) (aW (bE (ak rfl:210<=220) _) hun) hh fa F hv q'
 |none=>
  rw [hq] at e';refine eY e' λcd hq' e'=>?_;refine sO (YO hq') λt d sl hl=>?_;exact P6 (n:=n) ze hex (by rw [hK];exact hl) e' (Im) (aW (bE (ak rfl:219<=220) _) hun) hh fa F hv q'
def xP(B:lH):Prop:=∀C∈B.ie,∃(nm q:Str) (N:bk) (bs bm:List ay) (hdct:Bool) (sn:List Str) (sub:List ay) (ab:Bool) (col:Option Bool) (dd:Option bk) (k0 k1 k2 k3 k5:Option ay) (newId initId Bn:String) (mN:Str->Option ay),
 B.h₀.get? C=af (excClassObj nm q C N bs bm hdct sn sub ab col dd k0 k1 k2 k3 k5 newId)/\ExcBaseFacts Bn newId initId bm/\B.h₀.Ns N mN/\mN "__init__" =ae
section
variable{s_0:aM}
theorem Fits.adopt{o:O}{r:Obj}(F:Fits B ρ σ fr up env fl s)(o4:Hid B ρ env up a)(ha:s.heap.get? a=af r)(hr:ou B.pr B.w ρ o r):Fits B (ρ++ [a]) (σ++ [o]) fr up env fl s:=by
 have x:Ext ρ (ρ++ [a]):=⟨_,rfl⟩;have ne:∀b,b∉ρ->b≠a->b∉ρ++ [a]:=λb h1 h2 h=>by
  rcases aG.mp h with h|h
  ·exact h1 h
  ·exact h2 (aL.mp h)
 refine ⟨⟨by simp [F.rep.len],?_,?_,λi o' ho=>?_,F.rep.keep⟩,F.mv.keep x λ_ _ _ e=>e,F.ok,λb hb=>ne b (F.rM b hb) (by rintro rfl;exact o4.own hb),F.oW,F.jK,F.mF,F.oY,F.gens,F.L8,λL hL=>?_⟩
 ·refine (bo).mpr ?_;exact ⟨F.rep.nd,by exact iK rfl,λb hb c hc=>by simp at hc;subst hc;rintro rfl;exact o4.ρ hb⟩
 ·intro b hb;rcases aG.mp hb with hb|hb
  ·exact F.rep.new b hb
  ·refine (aL.mp hb)▸ ?_;exact o4.base
 ·rcases ew i σ.length with q|q
  ·rw [aJ q] at ho;refine ck (F.rep.obj i o' ho) λb r' h1 h2 h3=>?_;exact ⟨b,r',x.at h1,h2,h3.ext x⟩
  ·rw [bT q] at ho;have:i-σ.length=0:=by
    rcases w6 (i-σ.length) with z|z
    ·exact z
    ·rw [eG (by simp;exact z)] at ho;exact nn ho
   rw [this] at ho;simp at ho;subst ho;have hi:i=ρ.length:=by refine F.rep.len▸ ?_;exact ib (mA this) q
   subst hi;exact ⟨a,r,by simp,ha,hr.ext x⟩
 ·refine iA (F.Dt L hL) λh3 h4 h5 h6=>?_;exact ⟨h3,ne L h4 (by rintro rfl;exact o4.fr hL),h5,h6⟩
theorem Step.adopt{W:Wr}(x:Step ρ W s_0 ρ' s)(ha:s_0.heap.get? a=ae):Step ρ W s_0 (ρ'++ [a]) s:=by
 refine aR x.ext λm e hm=>?_;refine ⟨⟨m++ [a],by rw [e,aQ],λb hb=>?_⟩,x.live,x.keep,x.wN,x.gens,x.os,x.drawn⟩;rcases aG.mp hb with hb|hb
 ·exact hm b hb
 ·refine (aL.mp hb)▸ ?_;exact ha
theorem Fits.yU(F:Fits B ρ σ fr up env fl s)(ha:s.heap.get? a=ae):Hid B ρ env up a:=by
 refine ⟨λh=>?_,λh=>?_,?_,F.xD ha⟩
 ·obtain ⟨i,hi,OL⟩:=oh h;have U0:i<σ.length:=F.rep.len▸hi;refine ck (F.rep.obj i σ[i] (di U0)) λb' r' k1 k2 _=>?_;rw [di hi,OL] at k1;(injection k1 with k1;subst k1);rw [ha] at k2;exact nn k2
 ·obtain ⟨o,ho⟩:=F.jK a h;rw [ha] at ho;exact nn ho
 ·induction q:B.h₀.get? a using aw with
  |none=>rfl
  |some o=>have:=F.base _ _ q;rw [ha] at this;exact nn this
end
section
variable{k:Lv}
theorem Ce{x:au}{q:Str × List au}(h:ET x=af q):q.2.all notStar=ao/\∃np cp,x= .Call (.Name q.1 np) q.2 [] cp:=by
 refine eY h λg h1 h2=>Lu h2 λh3 h4=>lmap h4 λy h5 h6=>lG (wM h5) λp h7=>?_;subst h6;exact ⟨h3,p,g.2.2,(G8 h1).trans (h7▸rfl)⟩
theorem MP{e cs:Option au}(H:yP B c k)(X:xP B)(hname:∀x p,dP B c k (.Name x p))(hargs:∀as,o6 B c k as):uN B c k (.Raise e cs pos):=λenv fl up fr σ f s₁ hF ev A ρ s Q E rm a F q=>by
 refine Ta ev λhz JI=>?_;clear ev;rw [eA,not_or] at hz;refine nD JI λna hna Rt=>?_;clear JI;obtain rfl:cs=ae:=by
  induction cs using aw with
  |none=>rfl
  |some _=>exact absurd rfl hz.2
 refine eY hna λx hx hna=>?_;refine d7 (Ce hna) λhns q'1=>?_;refine Aq q'1 λnp cp q'2=>?_;obtain ⟨cn,args⟩:=na;subst hx;subst q'2;have hname:=hname cn np;have hargs:=hargs args;have BI:c.hd=ao:=by simpa using hz.1
 have hh:A.handled=ae:=rm.hd (H.hd BI);refine bQ Rt λw s_2 h1 e1=>?_;clear Rt;refine bZ e1 λC w2 e2=>?_;clear e1;obtain rfl:=IT w2;refine Ta e2 λhC e3=>?_;clear e2;have ZC:C∈B.ie:=by refine (H.n9.ie).symm▸ ?_;exact Classical.byContradiction hC
 refine bQ e3 λas s_3 h2 e4=>?_;clear e3;refine bQ e4 λtv s_4 h3 e3=>?_;clear e4;refine cW (eQ h3) λhsz q'1 q'2=>?_;subst q'1;subst q'2;refine bQ e3 λev' s_5 h4 e4=>?_;clear e3;refine cW (eQ h4) λ_ q'3 q'4=>?_;subst q'3;subst q'4;obtain ⟨rfl,rfl⟩:=aK e4;refine gM (X C ZC) λnm qn N bs r'5=>?_;refine gM r'5 λbm hdct sn sub r'6=>?_;refine gM r'6 λab col dd k0 r'7=>?_;refine gM r'7 λk1 k2 k3 k5 r'8=>?_;refine sP r'8 λnewId initId Bn mN ZD Fb hN hni=>?_;have Ik:cX c (.Name cn np) up.sc up.vals up.fz ⟨fr,σ⟩=af (.top C,s_2):=h1;have hall:=CP (env:=env) (pos:=cp) hns;refine wpAny_Raise_call_sub (nm:=nm) (q:=qn) (C:=C) (N:=N) (bs:=bs) (bm:=bm) (hdct:=hdct) (sn:=sn) (sub:=sub) (ab:=ab) (col:=col) (dd:=dd) (k0:=k0) (k1:=k1) (k2:=k2) (k3:=k3) (k5:=k5) Fb (mN:=mN) hh (by
  refine (yu).mpr ?_;intro x hx;have:=bK.mp hall x hx;simpa using this) hni ?_
 refine hname env fl up fr σ _ s_2 Ik A ρ s _ E rm a F λρ_1 t_1 x gp F_1 hx=>?_;subst hx;refine ⟨rfl,xK H.n9 hargs (λe p h=>by subst h;injection hns) h2 rm a F_1 λρ_2 t_2 vs kC F_2 hvs=>?_⟩;have hz':=iK (show decide _=ao from hsz);have hl:=hvs.length;refine ⟨rfl,by show vs.length<=2^24;exact Pa hl hz' rfl,F_2.base _ _ ZD,hN.keeps F_2.base,λh' e hm=>?_⟩;refine cO hm.there λt ht1 Xo ZE=>?_;obtain ⟨stG,FG⟩:=F_2.grown (h':=h') hm.keeps t_2.toks;have ZF:=F_2.yU Xo;have hide:=F_2.yU hm.new;have hte:e≠t:=by rintro rfl;rw [ht1] at ZE;cases ZE
 have Ft:=FG.adopt (o:=.tuple as) ZF ZE ⟨vs.toArray,0,rfl,by simpa using hvs,by refine gB▸ ?_;exact ai (ar hl.symm) hz'⟩;have Xp:Hid B (ρ_2++ [t]) env up e:=⟨λh=>by
  rcases aG.mp h with h|h
  ·exact hide.ρ h
  ·exact hte (aL.mp h),hide.own,hide.base,hide.fr⟩
 have TK:(ρ_2++ [t])[s_3.os.length]? =af t:=by refine (F_2.rep.len).symm▸ ?_;simp
 have Fe:=Ft.adopt (o:=.exc C s_3.os.length) Xp ht1 ⟨t,_,TK,rfl,rfl,rfl⟩;have st:=(((gp.trans kC).trans stG));have fresh:∀b,t_2.heap.get? b=ae->s.heap.get? b=ae:=λb hb=>by
  induction qq:s.heap.get? b using aw with
  |none=>rfl
  |some o=>obtain ⟨o',h'⟩:=(gp.trans kC).live _ _ qq;rw [hb] at h';exact nn h'
 refine q _ _ (.ref e) C s_3.os.length ((st.adopt (fresh t Xo)).adopt (fresh e hm.new)) Fe ⟨e,?_,rfl⟩ ⟨e,_,_,rfl,fresh e hm.new,ht1,rfl,rfl⟩ ?_
 ·show (ρ_2++ [t]++ [e])[(s_3.os++ [jk as]).length]? =af e;rw [aq,←F_2.rep.len];simp
 ·show (s_3.os++ [jk as]++ [O.exc C s_3.os.length])[(s_3.os++ [jk as]).length]? =_;simp
end
theorem HC(a:ay):checkBoundCall "list_iterator.__next__" ⟨[a],[]⟩=aA ():=by kernel_rfl
theorem HD{M:Model}{q:bk}(h:pO)(X:h.get? q=af (sY a)):∃k,(k=oJ∨k=lW∨k=jQ)/\Looks M h (yx (.ref q)) k:=by
 refine ⟨.machine,.inr (.inl rfl),(Looks.ld (part:=none) X).andThen ?_⟩;exact .now
theorem KC{q:bk}(X:s.heap.get? q=af (sY a))(h:gP (model prog w) A (.builtin "list_iterator.__next__" ⟨[.ref a],[]⟩) R s):gP (model prog w) A (.call (.ref q) ⟨[],[]⟩) R s:=by
 obtain ⟨hh,g,dr,t,os⟩:=s;refine codeAny_of_tree ?_;show wpAny _ _ (callAny (.ref q) _) _ _ _;dsimp only at X;refine nd_load X ?_;show wpAny _ _ (checkBoundCall "list_iterator.__next__" ⟨[.ref a],[]⟩>>=λ_=>again (.builtin "list_iterator.__next__" ⟨[.ref a],[]⟩)) _ _ _;rw [HC];exact aB (bF (bF ⟨w9 _ (by decide+kernel),h⟩))
noncomputable abbrev A4(l:bk)(k:Nat):Obj:=⟨.type "list_iterator",ae,.fields #[.ref l,.int k 0],#[]⟩
theorem next_item{it l:bk}{items:Array ay}{x:ay}(hit:s.heap.get? it=af (A4 l k))(hl:s.heap.get? l=af ⟨.type "list",ae,.seq items n,#[]⟩)(hx:items[k]? =af x)
  (h:∀h',h'.get? it=af (A4 l (k+1))->ip it s.heap h'->R (.ok (.ret x)) {s with heap:=h'}):gP (model prog w) A (.builtin "list_iterator.__next__" ⟨[.ref it],[]⟩) R s:=by
 refine t6 v7 ?_;show wpAny _ _ (field (.ref it) 0>>=_) _ _ s;refine aB (kc hit rfl (x:=.ref l) rfl ?_);show wpAny _ _ (if (cC l==cq)=ao then _ else _) _ _ s;refine (if_neg (show¬((cC l==cq)=ao) from bj))▸ ?_;show wpAny _ _ (field (.ref it) 1>>=_) _ _ s;refine aB (kc hit rfl (x:=.int k 0) rfl ?_);show wpAny _ _ (zj (.ref l)>>=_) _ _ s;refine aB (vm hl rfl ?_);simp only [md,hx];refine aB (l9 hit rfl (by exact ax _) (bF (h _ ?_ (kK ..))));have:=fS (gR (·.setIfInBounds 1 (xd (((k:Nat)+1:Nat):Int)))) hit rfl;exact this
theorem next_end{it l:bk}{items:Array ay}(hh:A.handled=ae)(hit:s.heap.get? it=af (A4 l k))(hl:s.heap.get? l=af ⟨.type "list",ae,.seq items n,#[]⟩)(hx:items[k]? =ae)
  (h:∀h' e oe vs oi,Heap.ExtBut it s.heap h'->h'.get? it=af oi->s.heap.get? e=ae->h'.get? e=af oe->oe.cls= .type "StopIteration" ->oe.data= .fields vs->vs[1]? =af .none->R (.error (.ref e)) {s with heap:=h'}):gP (model prog w) A (.builtin "list_iterator.__next__" ⟨[.ref it],[]⟩) R s:=by
 refine t6 v7 ?_;show wpAny _ _ (field (.ref it) 0>>=_) _ _ s;refine aB (kc hit rfl (x:=.ref l) rfl ?_);show wpAny _ _ (if (cC l==cq)=ao then _ else _) _ _ s;refine (if_neg (show¬((cC l==cq)=ao) from bj))▸ ?_;show wpAny _ _ (field (.ref it) 1>>=_) _ _ s;refine aB (kc hit rfl (x:=.int k 0) rfl ?_);show wpAny _ _ (zj (.ref l)>>=_) _ _ s;refine aB (vm hl rfl ?_);simp only [md,hx];refine aB (wpAny_rule (aB (l9 hit rfl (by exact lF _) ?_)));show wpAny _ _ (newExc (.type "StopIteration") []>>=_) _ _ _;refine aB ?_;simp only [newExc,newTuple];refine aB (jS ?_ (by exact dH _ _));refine aB (m:=firstArgMember _ _) (nO (a:=cq) (by first|rfl|(simp only [firstArgMember];rfl)) ?_);refine jS ?_ (by exact dH _ _);dsimp only [raiseNew];refine aB (wpAny_handled ?_);have hh':∀c,(A.under c).handled=ae:=λc=>hh;rw [hh'];have hoi:=fS (gR (·.setIfInBounds 0 cq)) hit rfl;refine aB (bF (wpAny_throw (h _ _ _ _ _ (((kK ..).extBut.push _).push _) (aP _ (aP _ hoi)) ?_ (dh _ rfl) rfl rfl rfl)));induction q:s.heap.get? _ using aw with
 |none=>rfl
 |some o=>
  have h1:=du q;rw [lZ,Heap.size_after_update] at h1;exact absurd h1 (cD.mpr (lF _))
theorem MQ:r7 (.type "StopIteration") (.type "BaseException")=aA ao:=by rw [iY];kernel_rfl
theorem P8:r7 (.type ((Manifest.find? "StopIteration").elim "type" λy=>y.metatype)) (.type "tuple")=aA bf:=by rw [iY];kernel_rfl
theorem MR:r7 (.type "StopIteration") (.type "StopIteration")=aA ao:=by rw [iY];kernel_rfl
section
variable{k:Lv}
theorem kF.marked{x:ay}(r:kF A k):kF (A.mark (af x)) ⟨k.n,bf⟩:=⟨r.depth,r.units,λh=>by injection h⟩
theorem V4{o:Option α}{r:α}(e:o=af r)(h:o=ae):C:=nn (h.symm.trans e)
theorem TL{M:Model}{t:Sem α}{Q:α->aM->Prop}(h:∀Q' E',(∀a s',Q a s'->Q' a s')->(∀a s',E a s'->E' a s')->wpAny M A t Q' E' s):wpAny M A t Q E s:=h Q E (λ_ _=>id) λ_ _=>id
theorem TM(h:G4 v=ao):v= .type "StopIteration" :=by
 induction v using V.casesOn<;>first|exact congrArg _ (iK h)|injection h
theorem HE{tn:Str}{xp cp ap tp hp:Pos}{f:au}{rest hb:List fY}{h0:fY}{w:V}{s_2:eP}(H:yP B c k)(hf:dP B c k f)(hrest:lK B c k rest)(hname:dP B c ⟨k.n,bf⟩ (.Name tn tp))(ZG:lK B {c with hd:=bf} ⟨k.n,bf⟩ (h0::hb))
  {env:Env}{fl:List Env}{up:Up}{fr:eB}{σ:List O}{fo:Fl}{s₁:eP}(hF:I4 env fl up) (BI:c.hd=ao) (hna:notAttr f=ao) (h1:cX c f up.sc up.vals up.fz ⟨fr,σ⟩=af (w,s_2))
  (e1:uE c (setC up.sc x) (jG c up.sc up.vals rest) (do if G4 (←zy c up.sc up.vals tn) then jG {c with hd:=bf} up.sc up.vals (h0::hb) else fail) w up.fz s_2=af (fo,s₁))
  {A:iW}{ρ:List bk}{s:aM}{Q:Flow->aM->Prop}{E:ay->aM->Prop}(rm:kF A k) (a:A.frames=af fl) (F:Fits B ρ σ fr up env fl s) (q:MH B env fl up ρ s s₁.fr s₁.os fo Q E):
  wpAny (model B.pr B.w) A (exec (.Try (.Assign [.Name x xp] (.Call f [] [] cp) ap::rest) [.ExceptHandler (af (.Name tn tp)) ae (h0::hb) hp] [] [] pos) env) Q E s:=by
 obtain ⟨outer,hfl⟩:=hF.hd;have hh:A.handled=ae:=rm.hd (H.hd BI);refine objE e1 λon h2 e2=>?_;clear e1;refine bZ e2 λit w1 e3=>?_;clear e2;obtain rfl:=Td w1;refine L9 e3 λoi h3' e4=>?_;clear e3;refine bZ e4 λlk w2 e5=>?_;clear e4;obtain rfl:=IQ w2;obtain ⟨l,kk⟩:=lk;refine L9 e5 λol GI e6=>?_;clear e5;refine bZ e6 λxs w3 e4=>?_;clear e6;obtain rfl:=wL w3;refine wpAny_Try_except (mT ?_);refine wpAny_Assign_Name ?_;have he:eval (.Call f [] [] cp) env=(do callWith cp (←eval f env) [] (kb cp (fK [] env)) []):=by
  induction f using bg<;>first|rfl|injection hna
 refine he▸ ?_;refine TL λQ' E' hQ hE=>?_;refine aB (hf env fl up fr σ w _ h1 A ρ s _ _ rm a F λρ_1 t_1 vf gp F_1 Yu=>?_);refine d7 (F_1.obj H.n9.aj h2 Yu) λ_ r'3=>?_;refine ck r'3 λqa rq q'1 gq r'4=>?_;refine aR r'4 λia ZH q'2=>?_;obtain rfl:=q'1;obtain rfl:=q'2;refine ck (F_1.rep.obj it _ h3') λia' ri k1 gi r'6=>?_;refine aR r'6 λla hla q'5=>?_;obtain rfl:=q'5;rw [ZH] at k1;(injection k1 with k1;subst k1);refine ck (F_1.rep.obj l _ GI) λla' rl k2 gl r'8=>?_;refine ck r'8 λys nn q'7 hys aal=>?_;obtain rfl:=q'7;rw [hla] at k2;(injection k2 with k2;subst k2);refine jZ (P:=λh=>h.get? qa=af (sY ia)) (λh X=>HD h X) (rG ⟨gq,?_⟩);refine pS (KC gq ?_);induction hk:xs[kk]? using aw with
 |some v=>
  rw [hk] at e4;refine bQ (m:=gZ it (.kP l (kk+1))) e4 λu s_3 h5 e5=>?_;refine iA (i5 h5) λhlt hso hnf q'9=>?_;obtain rfl:=q'9;refine bQ e5 λu' s_4 h6 e6=>?_;refine bQ e6 λf' s_5 h7 e7=>?_;refine cW (wQ e7) λq'10 q'11 hne=>?_;obtain rfl:=q'10;obtain rfl:=q'11;refine aR (hys.get hk) λy hy hvy=>?_;rw [cV] at hy;refine next_item gi gl hy λh' hi' hs'=>?_;obtain ⟨ZI,FS⟩:=F_1.setAt (o:=.kP l (kk+1)) hnf ZH hs' hi' ⟨la,hla,rfl⟩ t_1.toks;refine hQ _ _ ?_;refine o8 (k:=k) h6 rm a FS hvy λρ_2 t_2 kC F_2=>?_;refine hrest env fl up s_4.fr s_4.os f' s_5 hF h7 A ρ_2 t_2 _ _ rm a F_2 ?_;have q':=(q.after ((gp.trans ZI).trans kC)).P0 hne;induction f' using Fl.casesOn with
  |exc j=>exact absurd rfl (hne j)
  |next=>exact λρ_3 t_3 tZ kD F_3 hfl=>by subst hfl;exact t7 (q' ρ_3 t_3 .next kD F_3 rfl)
  |brk=>exact λρ_3 t_3 tZ kD F_3 hfl=>by subst hfl;exact q' ρ_3 t_3 .brk kD F_3 rfl
  |cont=>exact λρ_3 t_3 tZ kD F_3 hfl=>by subst hfl;exact q' ρ_3 t_3 .cont kD F_3 rfl
  |ret v=>exact λρ_3 t_3 tZ kD F_3 hfl=>by refine aR hfl λz q'12 hz=>?_;obtain rfl:=q'12;exact q' ρ_3 t_3 _ kD F_3 ⟨z,rfl,hz⟩
 |none=>
  rw [hk] at e4;refine bQ e4 λu s_3 h5 e5=>?_;refine iA (i5 h5) λhlt hso hnf q'13=>?_;obtain rfl:=q'13;refine bQ e5 λf' s_5 h8 e7=>?_;refine bQ h8 λtv s_4 h6 e6=>?_;refine xC e6 λhT h7=>?_;obtain rfl:=TM hT;refine cW (wQ e7) λq'14 q'15 hne=>?_;obtain rfl:=q'14;obtain rfl:=q'15;refine next_end hh gi gl (by have:=hys.none hk;rw [cV] at this;exact this) λh' e oe vs oi hx' hi' hen he' hec hed Xq=>?_;have hkp:∀b ob,b≠ia->t_1.heap.get? b=af ob->h'.get? b=af ob:=λb ob hb EE=>hx' b ob hb EE;obtain ⟨ZI,FS⟩:=F_1.DA (s':={t_1 with heap:=h'}) (o:=.dead) (r:=oi) hnf ZH hkp hi' ((Heap.get?_some_iff.mp hi').2) rfl rfl rfl;have U1:A.frames=af (env::outer):=by rw [a,hfl]
  have U2:h'.FunFrames B.h₀ (env::outer):=by refine (hfl).symm▸ ?_;exact FS.yT
  have st2:=gp.trans ZI;have EU:s.heap.get? e=ae:=by
   induction qq:s.heap.get? e using aw with
   |none=>rfl
   |some o=>obtain ⟨o',h''⟩:=gp.live _ _ qq;rw [hen] at h'';injection h''
  refine hE _ _ ?_;refine A3 (s:={t_1 with heap:=h'}) U1 U2 hF.fr he' hed Xq λh_2 T oT ts hN Ss Lx zO Gr Ln hz=>?_;have hd_2:(oe.mapFields (·.setIfInBounds 1 (.ref T))).data= .fields (vs.setIfInBounds 1 (.ref T)):=g9 hed _;have Gq:1<vs.size:=(dM.mp Xq).1;refine pb (s:={t_1 with heap:=h_2}) zO hd_2 (by simp [Gq]) Gr Ln hz λh_3 Xr Xs Gs C8 Io h33 ON=>?_;have frT:s.heap.get? T=ae:=by
   induction qq:s.heap.get? T using aw with
   |none=>rfl
   |some o=>obtain ⟨o',h''⟩:=st2.live _ _ qq;rw [Ss] at h'';injection h''
  have N1:jr [e,T] up.kE h' h_2:=hN.mono (by first|exact all1 (by first|exact .head _|exact .tail _ (.head _)|exact .tail _ (.tail _ (.head _)))|exact all2 (by first|exact .head _|exact .tail _ (.head _)|exact .tail _ (.tail _ (.head _))) (by first|exact .head _|exact .tail _ (.head _)|exact .tail _ (.tail _ (.head _)))) λb hb=>FS.ML b (by refine hfl▸ ?_;exact hb);have N2:jr [e,T] up.kE h_2 h_3:=Gs.mono (by first|exact all1 (by first|exact .head _|exact .tail _ (.head _)|exact .tail _ (.tail _ (.head _)))|exact all2 (by first|exact .head _|exact .tail _ (.head _)|exact .tail _ (.tail _ (.head _))) (by first|exact .head _|exact .tail _ (.head _)|exact .tail _ (.tail _ (.head _)))) λb hb=>nomatch hb
  have hide:=FS.yU (a:=T) Ss;have JM:=F_1.yU (a:=e) hen;have hS:∀b∈ [e,T],b∉own env/\B.h₀.get? b=ae/\b∉up.kE:=all2 ⟨JM.own,JM.base,JM.fr⟩ ⟨hide.own,hide.base,hide.fr⟩;have OO:∀b∈ [e,T],b∉ρ_1:=all2 JM.ρ hide.ρ;have Xu:∀b∈ [e,T],s.heap.get? b=ae:=all2 (by assumption) (by assumption);have touched:∀{hh:pO},jr [e,T] up.kE h' hh->Step ρ (wr up env) s ρ_1 {t_1 with heap:=hh}/\Fits B ρ_1 _ _ up env fl {t_1 with heap:=hh}:=λN=>
   ⟨st2.xO Xu N,FS.xO N hS λi o b _ hb hm=>absurd (bN hb) (OO b hm)⟩
  obtain ⟨st3,F3⟩:=touched (N1.trans N2);have yf:h_3.get? e=af (oe.mapFields (·.setIfInBounds 1 (.ref T))):=Gs.keep _ _ (by simp;exact λhq=>Lx hq.symm) (λhq=>nomatch hq) zO;refine wpAny_handleBy_builtin (X:= "StopIteration") (T:= "StopIteration") (b:=true) MQ P8 MR ?_;have ZJ:cX c (.Name tn tp) up.sc up.vals up.fz ⟨s_2.fr,s_2.os.set it .dead⟩=af (.type "StopIteration",s_4):=by dsimp only [cX];exact h6
  refine hname env fl up _ _ _ s_4 ZJ _ ρ_1 {t_1 with heap:=h_3} _ _ rm.marked a F3 λρ_4 t_4 tyv my F_4 hty=>?_;subst hty;have Sv:∀b o,b∈ [e,T]->h_3.get? b=af o->t_4.heap.get? b=af o:=λb o hb EE=>my.keep b o EE (.inl (OO b hb)) λhm=>(aG.mp hm).elim (hS b hb).1 (hS b hb).2.2;have Sw:=Sv e _ (by exact fm) yf;have Xv:=Sv T _ (by simp) C8;refine ⟨rfl,⟨_,Sw,(ma _ _).trans hec⟩,?_⟩;simp only [if_true];refine pb Sw hd_2 (by simp [Gq]) Xv Io (by rw [ON];exact hz) λh_5 Xw Xx JN Xy U3 h35 Xz=>?_;have N5:jr [e,T] up.kE t_4.heap h_5:=JN.mono (by first|exact all1 (by first|exact .head _|exact .tail _ (.head _)|exact .tail _ (.tail _ (.head _)))|exact all2 (by first|exact .head _|exact .tail _ (.head _)|exact .tail _ (.tail _ (.head _))) (by first|exact .head _|exact .tail _ (.head _)|exact .tail _ (.tail _ (.head _)))) λb hb=>nomatch hb
  have Rv:∀b∈ [e,T],b∉ρ_4:=λb hb hm=>by
   refine aR my.ext λm em hm'=>?_;rw [em] at hm;rcases aG.mp hm with hm|hm
   ·exact OO b hb hm
   ·exact all2 (P:=λb=>h_3.get? b=ae->False) (λh=>V4 yf h) (λh=>V4 C8 h) b hb (hm' _ hm)
  have ZK:Step ρ (wr up env) s ρ_4 {t_4 with heap:=h_5}:=(st3.trans my).xO Xu N5;have F5:Fits B ρ_4 _ _ up env fl {t_4 with heap:=h_5}:=F_4.xO N5 hS λi o b _ hb hm=>absurd (bN hb) (Rv b hm);refine ZG env fl up _ _ f' s_5 hF h7 _ ρ_4 _ _ _ rm.marked a F5 ?_;have q':=(q.after ZK).P0 hne;induction f' using Fl.casesOn with
  |exc j=>exact absurd rfl (hne j)
  |next=>exact q'
  |brk=>exact q'
  |cont=>exact q'
  |ret v=>exact q'
end
section
variable{k:Lv}
theorem MS{o:au}{ap:Pos}{w:V}{m:Me}{r:CR}{s_2 s_3 s_4:eP}(H:yP B c k)(hc:kG B c k)(ho:dP B c k o)(hb1:baseOk o=ao)(hb2:ap.endLine=pos.line)
  (h1:cX c o up.sc up.vals up.fz ⟨fr,σ⟩=af (w,s_2)) (h2:ez c w name up.fz s_2=af (m,s_3)) (h3:eK c w m [] up.fz s_3=af (r,s_4)) (rm:kF A k) (a:A.frames=af fl) (F:Fits B ρ σ fr up env fl s)
  (q:KR B env fl up ρ s s_4.fr s_4.os r Q E):wpAny (model B.pr B.w) A (eval (.Call (.Attribute o name ap) [] [] pos) env) Q E s:=by
 show wpAny _ A (nk o name env (eval o env)>>=λov=>lj ap.atName>>=λ_=>pX o name ap pos env ov (0+0) (kb pos (fK [] env)) []) Q E s;refine (s7 hb1)▸ ?_;refine aB (ho env fl up fr σ w s_2 h1 A ρ s _ E rm a F λρ_1 t_1 vo st F_1 Il=>aB (eD ?_));dsimp only [pX];rw [show lY (0+0) (kb pos (fK [] env)) []=ao from rfl];refine aB (dZ ?_);show wpAny _ A (mR vo name _) _ E t_1;have Rr:s_3=⟨s_2.fr,s_2.os⟩:=(xH (A:=A) (E:=E) (pl:=aA ao) (Q:=λ_ _=>True) F_1 H.n9 h2 Il trivial).1;subst Rr;refine (xH (A:=A) (E:=E) F_1 H.n9 h2 Il ?_).2;refine aB (nO (a:=pos) (by dsimp only [wA];(exact (if_pos (by rw [hb2];simp)))) ?_);have q_1:KR B env fl up ρ_1 t_1 s_4.fr s_4.os r Q E:=by
  induction r using CR.casesOn with
  |ret v=>exact λρ' s' x st' F' hx=>q ρ' s' x (st.trans st') F' hx
  |exc i=>
   intro ρ' s' x st' F' hx hfl;refine q ρ' s' x (st.trans st') F' hx ?_;refine gM hfl λe T oe vs r'3=>?_;refine ey r'3 λoT ts g1 g2 g3 g4=>?_;have fresh:∀b,t_1.heap.get? b=ae->s.heap.get? b=ae:=λb hb=>by
    induction qq:s.heap.get? b using aw with
    |none=>rfl
    |some o=>obtain ⟨o',h'⟩:=st.live _ _ qq;rw [hb] at h';exact nn h'
   exact ⟨e,T,oe,vs,oT,ts,g1,fresh e g2,fresh T g3,g4⟩
 induction m using Me.casesOn with
 |fn f=>
  have h5:dN c (.top f) [w] up.fz ⟨s_2.fr,s_2.os⟩=af (r,s_4):=h3;refine jZ (P:=B.K.In) (uK (ρ':=ρ_1) H.n9 h5 rfl) (rG ⟨F_1.isIn,?_⟩);exact AZ H hc h5 rm a F_1 rfl ⟨Il,trivial⟩ q_1
 |bi id=>
  have GI:(if c.hd||id= "list.pop" then (do return EA (←ft c id w [])) else fail:M CR) up.fz ⟨s_2.fr,s_2.os⟩=af (r,s_4):=h3;by_cases hz:(c.hd||id= "list.pop")=ao
  ·rw [if_pos hz] at GI;refine bQ GI λu s_6 h6 e6=>?_;obtain ⟨rfl,rfl⟩:=aK e6;refine jZ (P:=B.K.In) (λh _=>AX h) (rG ⟨F_1.isIn,?_⟩);exact CN H (by simpa using hz) rm F_1 h6 Il trivial q_1
  ·rw [if_neg hz] at GI;exact nn GI
theorem Fits.forget(F:Fits B ρ σ fr up env fl s)(hs:ip env.locals s.heap h')(hn:h'.Ns env.locals m):
  Step ρ (wr up env) s ρ {s with heap:=h'}/\Fits B ρ σ [] up env fl {s with heap:=h'}:=by
 have hL:env.locals∈own env:=fm ..;refine gj (id hn) λon _ _ Zi _=>?_;have st:Step ρ (wr up env) s ρ {s with heap:=h'}:=step_same (tk:=s.toks) hs Zi (cf _ hL) hL;refine aR F.mv.loc λm₀ _ XA=>?_;refine ⟨st,F.step st (AK F.rep hs (F.rM _ hL) (F.oW _ hL)) ⟨⟨m,hn,λy hy=>⟨(XA y hy).1,trivial⟩⟩,λy hy=>?_,λy hy=>?_,F.mv.OZ⟩⟩
 ·refine d7 (F.mv.G9 y hy) λk' r'4=>?_;refine b9 r'4 λc o v' h1 h2 h3 h4=>?_;exact ⟨k',c,o,v',h1,(hs.2 c λq=>F.mF (q▸mem_lookup h1)).trans h2,h3,trivial⟩
 ·refine d7 (F.mv.EU y hy) λk' r'5=>?_;refine b9 r'5 λc o v' h1 h2 h3 h4=>?_;exact ⟨k',c,o,v',h1,(hs.2 c λq=>F.mF (q▸mem_lookup h1)).trans h2,h3,h4⟩
theorem KG{o:au}{tn n:Str}{ap cp rp tp rp' hp:Pos}{w:V}{m:Me}{r:CR}{s_2 s_3 s_4:eP}(H:yP B c k)(X:xP B)(hc:kG B c k)(ho:dP B c k o)(hname:dP B c ⟨k.n,bf⟩ (.Name tn tp))(he:dP B {c with hd:=bf} ⟨k.n,bf⟩ e)
  {env:Env}{fl:List Env}{up:Up}{fr:eB}{σ:List O}{fo:Fl}{s₁:eP}(hF:I4 env fl up) (hb1:baseOk o=ao) (hb2:ap.endLine=cp.line) (hloc:up.sc.names.lookup n=af .local)
  (h1:cX c o up.sc up.vals up.fz ⟨fr,σ⟩=af (w,s_2)) (h2:ez c w name up.fz s_2=af (m,s_3)) (h3:eK c w m [] up.fz s_3=af (r,s_4))
  (e3:Aa c (setC up.sc n) (zy c up.sc up.vals tn) (cX {c with hd:=bf} e up.sc up.vals) r up.fz s_4=af (fo,s₁))
  {A:iW}{ρ:List bk}{s:aM}{Q:Flow->aM->Prop}{E:ay->aM->Prop}(rm:kF A k) (a:A.frames=af fl) (F:Fits B ρ σ fr up env fl s) (q:MH B env fl up ρ s s₁.fr s₁.os fo Q E):
  wpAny (model B.pr B.w) A (exec (.Try [.Return (af (.Call (.Attribute o name ap) [] [] cp)) rp] [.ExceptHandler (af (.Name tn tp)) (af n) [.Return (af e) rp'] hp] [] [] pos) env) Q E s:=by
 obtain ⟨outer,hfl⟩:=hF.hd;refine wpAny_Try_except (mT (qN ?_));refine MS H hc ho hb1 hb2 h1 h2 h3 rm a F ?_;induction r using CR.casesOn with
 |ret v=>
  obtain ⟨rfl,rfl⟩:=aK e3;exact λρ' s' x st F' hx=>q ρ' s' _ st F' ⟨x,rfl,hx⟩
 |exc i=>
  refine L9 e3 λoi GI e4=>?_;clear e3;refine bZ e4 λCt w1 e5=>?_;clear e4;obtain rfl:=RQ w1;obtain ⟨C,ti⟩:=Ct;refine bQ e5 λtv s_6 h5 e6=>?_;clear e5;refine bZ e6 λC' w2 e5=>?_;clear e6;obtain rfl:=IT w2;refine xC e5 λhCC e4=>?_;clear e5;obtain ⟨rfl,hCe⟩:=hCC;have ZC:C∈B.ie:=by refine (H.n9.ie).symm▸ ?_;exact hCe
  refine bQ e4 λu s_7 h6 e6=>?_;refine bQ e6 λv s_8 h7 e7=>?_;obtain ⟨⟩:=e7;intro ρ_1 t_1 x gp F_1 hx ZL;refine gM ZL λea T_0 oe vs r'7=>?_;refine iB r'7 λo_0 JL q'6 EU ZM Rw U4 r'8=>?_;refine iQ r'8 λhea hed Xq XB U5 h30=>?_;obtain rfl:=q'6;refine aR hx λea' hei OL=>?_;(injection OL with OL;subst OL);have U1:A.frames=af (env::outer):=by rw [a,hfl]
  have U2:t_1.heap.FunFrames B.h₀ (env::outer):=by refine (hfl).symm▸ ?_;exact F_1.yT
  refine HA U1 U2 hF.fr hea hed Xq U4 XB U5 h30 λh_2 T oT ts hN Ss Lx zO Gr Ln hz=>?_;have hd_2:(oe.mapFields (·.setIfInBounds 1 (.ref T))).data= .fields (vs.setIfInBounds 1 (.ref T)):=g9 hed _;have Gq:1<vs.size:=(dM.mp Xq).1;refine pb (s:={t_1 with heap:=h_2}) zO hd_2 (by simp [Gq]) Gr Ln hz λh_3 Xr Xs Gs C8 Io h33 ON=>?_;have frT:s.heap.get? T=ae:=by
   induction qq:s.heap.get? T using aw with
   |none=>rfl
   |some o=>obtain ⟨o',h''⟩:=gp.live _ _ qq;rw [Ss] at h'';exact nn h''
  have N1:jr [ea,T_0,T] up.kE t_1.heap h_2:=hN.mono (by first|exact all2 (by first|exact .head _|exact .tail _ (.head _)|exact .tail _ (.tail _ (.head _))) (by first|exact .head _|exact .tail _ (.head _)|exact .tail _ (.tail _ (.head _)))|exact all1 (by first|exact .head _|exact .tail _ (.head _)|exact .tail _ (.tail _ (.head _)))) λb hb=>F_1.ML b (by refine hfl▸ ?_;exact hb);have N2:jr [ea,T_0,T] up.kE h_2 h_3:=Gs.mono (by first|exact all1 (by first|exact .head _|exact .tail _ (.head _)|exact .tail _ (.tail _ (.head _)))|exact all2 (by first|exact .head _|exact .tail _ (.head _)|exact .tail _ (.tail _ (.head _))) (by first|exact .head _|exact .tail _ (.head _)|exact .tail _ (.tail _ (.head _)))) λb hb=>nomatch hb
  have ZN:=F_1.yU (a:=T) Ss;have Xu:∀b∈ [ea,T_0,T],s.heap.get? b=ae:=O9 (by assumption) (by assumption) (by assumption);have hS:∀b∈ [ea,T_0,T],b∉own env/\B.h₀.get? b=ae/\b∉up.kE:=λb hb=>by
   have:=F.yU (Xu b hb);exact ⟨this.own,this.base,this.fr⟩
  have yf:h_3.get? ea=af (oe.mapFields (·.setIfInBounds 1 (.ref T))):=Gs.keep _ _ (by simp;exact λhq=>Lx hq.symm) (λhq=>nomatch hq) zO;refine ck (F_1.rep.obj i _ GI) λeb re k1 k2 r'9=>?_;refine ey r'9 λta fs k3 k4 k5 k6=>?_;rw [hei] at k1;(injection k1 with k1;subst k1);rw [hea] at k2;(injection k2 with k2;subst k2);rw [hed] at k5;(injection k5 with k5;subst k5);have ZO:∀{ρ':List bk},Ext ρ_1 ρ'->ou B.pr B.w ρ' (.exc C ti) (oe.mapFields (·.setIfInBounds 1 (.ref T))):=λx=>⟨ta,_,x.at k3,(ma _ _).trans k4,hd_2,by refine (mr (by decide)).trans ?_;exact k6⟩;have OO:∀b∈ [ea,T_0,T],∀(j:Nat),ρ_1[j]? =af b->j=i/\b=ea:=λb hb j hj=>by
   have hlt:j<ρ_1.length:=(cS.mp hj).1;exact O9 (P:=λb=>ρ_1[j]? =af b->j=i/\b=ea) (λhj=>⟨(iq hlt F_1.rep.nd).mp (hj.trans hei.symm),rfl⟩) (λhj=>absurd (bN hj) Rw) (λhj=>absurd (bN hj) ZN.ρ) b hb hj
  have touched:∀{hh:pO},jr [ea,T_0,T] up.kE t_1.heap hh->hh.get? ea=af (oe.mapFields (·.setIfInBounds 1 (.ref T)))->Step ρ (wr up env) s ρ_1 {t_1 with heap:=hh}/\Fits B ρ_1 _ _ up env fl {t_1 with heap:=hh}:=λ{hh} N hob=>
   ⟨gp.xO Xu N,F_1.xO N hS λj o b hj hb hm=>by
    obtain ⟨rfl,rfl⟩:=OO b hm j hb;rw [GI] at hj;(injection hj with hj;subst hj);exact ⟨_,hob,ZO (Ext.refl _)⟩⟩
  obtain ⟨st3,F3⟩:=touched (N1.trans N2) yf;refine gM (X C ZC) λnm qn N bs r'10=>?_;refine gM r'10 λbm hdct sn sub r'11=>?_;refine gM r'11 λab col dd k0 r'12=>?_;refine gM r'12 λk1' k2' k3' k5' r'13=>?_;refine sP r'13 λnewId initId Bn mN ZD Fb hNs hni=>?_;refine wpAny_handleBy_cons (codeAny_handlers_test ?_) (by intro q;injection q);have ZP:=CF (env:=env) (fl:=fl) (pos:=tp) (A:=A.mark (af (.ref ea))) (E:=tJ (model B.pr B.w) (A.mark (af (.ref ea))) env λx s₁=>cameBackBy (model B.pr B.w) A env E x s₁) H.n9.K F3 h5;obtain ⟨hs6,ZP⟩:=ZP;subst hs6;refine ZP λtyv hty=>?_;subst hty;have ZQ:h_3.get? C=af (excClassObj nm qn C N bs bm hdct sn sub ab col dd k0 k1' k2' k3' k5' newId):=F3.base _ _ ZD;obtain ⟨hp_1,gg,dr,tk,os⟩:=t_1;refine wpAny_excMatches_sub_self ZQ yf ((ma _ _).trans k4) Fb.hasBase ?_;dsimp only;refine (if_pos rfl)▸ ?_;dsimp only;refine codeAny_handlers_suite_as ?_;refine pb (s:=⟨h_3,gg,dr,tk,os⟩) yf hd_2 (by simp [Gq]) C8 Io (by rw [ON];exact hz) λh_5 Xw Xx JN Xy U3 h35 Xz=>?_;have N5:jr [ea,T_0,T] up.kE h_3 h_5:=JN.mono (by first|exact all1 (by first|exact .head _|exact .tail _ (.head _)|exact .tail _ (.tail _ (.head _)))|exact all2 (by first|exact .head _|exact .tail _ (.head _)|exact .tail _ (.tail _ (.head _))) (by first|exact .head _|exact .tail _ (.head _)|exact .tail _ (.tail _ (.head _)))) λb hb=>nomatch hb
  have XC:h_5.get? ea=af (oe.mapFields (·.setIfInBounds 1 (.ref T))):=JN.keep _ _ (by simp;exact λhq=>Lx hq.symm) (λhq=>nomatch hq) yf;obtain ⟨ZK,F5⟩:=touched ((N1.trans N2).trans N5) XC;refine o8 (k:=⟨k.n,bf⟩) h6 rm.marked a F5 ⟨ea,hei,rfl⟩ λρ_6 t_6 XD F_6=>?_;refine mT (qN ?_);refine he env fl up s_7.fr s_7.os v s_8 h7 _ ρ_6 t_6 _ _ rm.marked a F_6 λρ_7 t_7 y XE F_7 hy=>?_;refine aR F_7.mv.loc λm_7 XF XG=>?_;have hlk:env.kindOf n=af .local:=(XG n hloc).1;have hkc:(env.scope.kind== .class||(env.scope.kind== .module&&env.locals != env.globals))=bf:=by refine F_7.ok.kind▸ ?_;rfl
  refine aB (wpAny_bindName (uc hlk XF (λh_8 XH XI=>?_) hkc));dsimp only [unbindBehindTheSuite];refine wpAny_onRaise (wpAny_unbindName_local (v:=.none) hlk XH (by simp) hkc λh_9 uu XJ XK=>?_);obtain ⟨st8,F8⟩:=F_7.forget (XI.trans XK) XJ;have st9:Step ρ_7 (wr up env) t_7 ρ_7 {t_7 with heap:=h_9,toks:=t_7.toks+1}:=st8.trans Step.toks;exact q ρ_7 _ _ (((ZK.trans XD).trans XE).trans st9) (F8.toks _) ⟨y,rfl,hy⟩
end
structure All(B:lH)(c:Cx)(k:Lv):Prop where
 Fq:yP B c k
 call:kG B c k
theorem All.YR{k:Lv}(h:All B c k):All B {c with hd:=bf} ⟨k.n,bf⟩:=
 ⟨⟨⟨h.Fq.n9.K,h.Fq.n9.aj,h.Fq.n9.ie⟩,λh=>by injection h⟩,λenv fl up fr σ a as r os' e A ρ s Q E vals rm fa hh F hv q=>
  h.call env fl up fr σ a as r os' e A ρ s Q E vals ⟨rm.depth,rm.units,λ_=>hh⟩ fa hh F hv q⟩
theorem DH{k:Lv}{b:List fY}(h:∀st∈b,uN B c k st):lK B c k b:=by
 induction b with
 |nil=>exact P4
 |cons st r ih=>exact MJ (h st (fm ..)) (ih λx hx=>h x (i8 _ hx))
theorem P9{k:Lv}{st:fY}(h:∀sc up z s,CC c sc up st z s=ae):uN B c k st:=λenv fl up fr σ f s₁ hF ev=>nn ((h ..).symm.trans ev)
theorem TN{k:Lv}{b:List fY}{hs:List ExceptHandler}{o fb:List fY}(X:xP B)(H:All B c k)(hb:∀a r,b=a::r->lK B c k r)(hh:∀t n b' p,hs= [.ExceptHandler t n b' p]->lK B {c with hd:=bf} ⟨k.n,bf⟩ b'):uN B c k (.Try b hs o fb pos):=λenv fl up fr σ f s₁ hF ev A ρ s Q E rm a F q=>by
 have EV:∀x,dP B c k x:=uM H.Fq H.call;refine Ta ev λhz JI=>?_;clear ev;rw [eA,eA,not_or,not_or] at hz;obtain ⟨⟨hz1,hz2⟩,GG⟩:=hz;have BI:c.hd=ao:=by simpa using hz1
 have ZR:∀{l:List fY},¬(!l.isEmpty)=ao->l= []:=λ{l} h=>by
  induction l using aC with
  |nil=>rfl
  |cons _ _=>exact absurd rfl h
 have ho:=ZR hz2;have hf:=ZR GG;refine nD JI λh hw Rt=>?_;clear JI;refine eY hw λh0 hw1 Yw=>?_;refine Aq (Th Yw) λtp a0 r'=>?_;refine gk r' λb0 hp hw3 ZS=>?_;have hhs:=AJ hw1;rw [hw3] at hhs;obtain ⟨tn,nm,hb0⟩:=h;have ZS:hb0=a0::b0:=ZS;subst ho;subst hf;subst hhs;subst ZS;clear hz1 hz2 GG ZR hw hw1 Yw hw3;have ZG:=hh _ _ _ _ rfl;clear hh;induction nm using aw with
 |none=>
  refine nD Rt λxf XM Yx=>?_;clear Rt;induction b using aC with
  |nil=>exact nn XM
  |cons a r=>
   refine d7 (JX (a:=a) XM) λhna r'=>?_;refine sO r' λxp cp ap he=>?_;subst he;refine bQ Yx λw s_2 h1 e1=>?_;exact HE H.Fq (EV _) (hb _ _ rfl) (DD H.Fq.n9) ZG hF BI hna h1 e1 rm a F q
 |some n=>
  refine Ta Rt λhl Yx=>?_;clear Rt;refine nD Yx λom XM ev4=>?_;clear Yx;refine nD ev4 λe hw6 ev5=>?_;clear ev4;refine eY XM λa9 hw7 hw8=>?_;refine jo (JY hw8) λap cp rp he hb1 hb2=>?_;refine eY hw6 λa' hw9 XN=>?_;refine lG (RT XN) λrp' he'=>?_;have hl1:=AJ hw7;have hl2:a0::b0= [a']:=AJ hw9;rw [he] at hl1;rw [he'] at hl2;subst hl1;injection hl2 with q1 q2
  subst q1;subst q2;clear XM hw6 hw7 hw8 hw9 XN hb;refine bQ ev5 λw s_2 h1 e1=>?_;clear ev5;refine bQ e1 λm s_3 h2 e2=>?_;clear e1;refine bQ e2 λr s_4 h3 e3=>?_;clear e2;exact KG H.Fq X H.call (EV _) (DD H.Fq.n9) (uM H.YR.Fq H.YR.call _) hF hb1 (beq_iff_eq.mp hb2) (by simpa using hl) h1 h2 h3 e3 rm a F q
theorem TO{k:Lv}(X:xP B)(H:All B c k)(st:fY)(IH:∀b:List fY,sizeOf b<sizeOf st->lK B c k b/\lK B {c with hd:=bf} ⟨k.n,bf⟩ b):uN B c k st:=by
 have EV:∀x,dP B c k x:=uM H.Fq H.call;have TS:∀x,o7 B c k x:=MG H.Fq H.call;induction st using pR with
 |Expr e p=>exact P2 (EV _)
 |Break p=>exact MI
 |Continue p=>exact Fm
 |Return v p=>exact TH EV
 |Assign ts e p=>exact Kv H.Fq EV TS
 |AugAssign t op e p=>exact TF H.Fq.n9 EV
 |Delete ts p=>exact TG H.Fq.n9 EV
 |If t b o p=>exact V1 (TS _) (IH b (PR (qr ..))).1 (IH o (O0 (qr ..))).1
 |While t b o p=>exact MK (TS _) (IH b (PR (n6 ..))).1 (IH o (O0 (n6 ..))).1
 |For t e b o p=>exact TJ H.Fq (EV _) (IH b (O0 ((PySem.Stmt.For.sizeOf_spec t e b o p).trans (dC ..)))).1
 |Try b hs o fb p=>
  have sp:=PySem.Stmt.Try.sizeOf_spec b hs o fb p;refine TN X H (λa r e=>(IH r (aD ?_ (RY (sp.trans (dC ..))))).1) λt n b' q e=>(IH b' (aD ?_ (PR (sp.trans (dC ..))))).2
  ·rw [e];exact w22 (ug ..)
  ·rw [e];exact aD (O0 (rH t n b' q)) (V0 (ug ..))
 |Raise x cs p=>exact MP H.Fq X (λ_ _=>EV _) (Hw H.Fq H.call)
 |_=>exact P9 λ_ _ _ _=>rfl
theorem HG(X:xP B):∀(n:Nat) (c:Cx) (k:Lv),All B c k->∀st:fY,sizeOf st<n->uN B c k st:=by
 intro n;induction n with
 |zero=>intro c k _ st h;exact absurd h (gI _)
 |succ n ih=>
  intro c k H st hn;have lt:∀{b:List fY}{x:fY},sizeOf b<sizeOf st->x∈b->sizeOf x<n:=λhb hx=>ag (aD (uf hx) hb) (dF hn);exact TO X H st λb hb=>⟨DH λx hx=>ih c k H x (lt hb hx),DH λx hx=>ih _ _ H.YR x (lt hb hx)⟩
theorem CT(X:xP B){k:Lv}(H:All B c k)(b:List fY):lK B c k b:=DH λst _=>HG X _ c k H st (bU _)
theorem HH(X:xP B){fuel:Nat}:∀(n:Nat) (hd:Bool),kG B ⟨B.K,B.aj,callC B.K B.aj B.ie fuel n,fuel,hd,B.ie⟩ ⟨n,hd⟩:=by
 intro n;induction n with
 |zero=>intro hd env fl up fr σ a as r os' e;exact nn e
 |succ n ih=>
  intro hd;have ze:ej ⟨B.K,B.aj,callC B.K B.aj B.ie fuel n,fuel,ao,B.ie⟩ B:=⟨rfl,rfl,rfl⟩;exact P7 rfl (λb=>CT X ⟨⟨ze,λ_=>rfl⟩,ih ao⟩ b) ze
theorem TP(B:lH)(X:xP B){fuel:Nat}{fa:bk}{t:ay}{d:Option bk}{fd:kS}(hK:B.K.lookup fa=af ⟨t,d,.func fd,sl⟩){Xa:bk}{b:Bool}
  (hB:∀b o,B.h₀.get? b=af o->s.heap.get? b=af o) (hX:s.heap.Ns Xa m) (hX0:B.h₀.get? Xa=ae) (hg:s.gens= #[]) (hv:bM [] as vals) (hn:2*n+310<recursionLimit) (hn':20*n+300<cLine)
  (e:callC B.K B.aj B.ie fuel (n+1) (.top fa) as [] []=af (.ret (.bool b),os'))
  (q:∀s',(∀b o,s.heap.get? b=af o->s'.heap.get? b=af o)->s'.gens=s.gens->s'.os=s.os->Q (.bool b) s'):wpAny (model B.pr B.w) callerA (call (.ref fa) vals) Q E s:=by
 let sc:Scope:={fd.scope with names:=[],kind:=.function}
 let env:Env:={scope:=sc,locals:=Xa,globals:=gu,cells:=[],qual:=fd.qualname,func:=ae,code:=.none,frame:=ae,builtins:=builtinsNs}
 let up:Up:=⟨sc,[],[],[]⟩
 refine gj (id hX) λoX esX nX gX _=>?_;have F:Fits B [] [] [] up env [] s:=by
  refine ⟨⟨rfl,dz,(λa h=>nomatch h),(λi o h=>by trivial),hB⟩,⟨⟨m,hX,λx h=>by exact nn h⟩,(λx h=>by exact nn h),(λx h=>by exact nn h),λx h=>by exact nn h⟩,⟨rfl,rfl,rfl⟩,(λa _ h=>nomatch h),λa ha=>?_,λa ha=>?_,(λh=>nomatch h),(λx y c h=>by exact nn h),hg,(λe h=>nomatch h),λL h=>nomatch h⟩
  ·refine (aL.mp ha)▸ ?_;exact hX0
  ·refine (aL.mp ha)▸ ?_;exact ⟨oX,gX⟩
 have e':(match fdOf (B.K.lookup fa) with
  |some fd=>LX ⟨B.K,B.aj,callC B.K B.aj B.ie fuel n,fuel,ao,B.ie⟩ fd as [] []
  |none=>(Pe (B.K.lookup fa)).bind λcd=>IP ⟨B.K,B.aj,callC B.K B.aj B.ie fuel n,fuel,ao,B.ie⟩ fa cd as [] [])=af (.ret (.bool b),os'):=e
 rw [hK] at e';have ze:ej ⟨B.K,B.aj,callC B.K B.aj B.ie fuel n,fuel,ao,B.ie⟩ B:=⟨rfl,rfl,rfl⟩;refine pS (HB (n:=n) (up:=up) ze (λb=>CT X ⟨⟨ze,λ_=>rfl⟩,HH X n ao⟩ b) hK e' ?_ ?_ rfl rfl F hv ?_)
 ·show 1+claimMargin+(2*n+1)<recursionLimit;have:claimMargin=300:=rfl;exact this▸aW (ai (ar (cF 301 _)) (bE (ak rfl:302<=310) _)) hn
 ·show 4+20*n+210<cLine;exact aW (ai (ar (congrArg (· +210) (cF 4 _))) (bE (ak rfl:214<=300) _)) hn'
 ·intro ρ' s' x st stC F' hx;subst hx;exact q s' (λb o h=>stC.keep b o h (.inl λh=>nomatch h) λh=>nomatch h) stC.gens stC.os
theorem has_int{R:BQ}{d:WData}(h:tM R d .int=ao):∃i,d= .int i:=by
 induction d using uh<;>first|exact ⟨_,rfl⟩|(dsimp only [tM] at h;injection h)
theorem Fs{R:BQ}:∀{xs:List WData},n7 R xs .int=ao->∃ns:List Int,xs=ns.map .int
 | [],_=>⟨[],rfl⟩
 |x::xs,h=>by
  dsimp only [n7] at h;rw [aS] at h;obtain ⟨i,rfl⟩:=has_int h.1;obtain ⟨ns,rfl⟩:=Fs h.2;exact ⟨i::ns,rfl⟩
theorem has_list{R:BQ}{d:WData}(h:tM R d (.list .int)=ao):∃ns:List Int,d= .list (ns.map .int):=by
 induction d using uh with
 |list xs=>
  dsimp only [tM] at h;have h':n7 R xs .int=ao:=by
   have:((WShape.list WShape.int).arms.any λa=>match a with
    | .list e=>n7 R xs e
    | .any=>BR bf xs
    | .anyF=>BR ao xs
    | .none| .bool| .int| .str| .tuples _| .tuple _| .dict _ _| .oneOf _| .float| .bytes| .bytearray| .set _| .frozenset _| .obj _=>bf)=ao:=h
   dsimp only [WShape.arms,rz,List.any_nil] at this;rw [Cu] at this;exact this
  obtain ⟨ns,rfl⟩:=Fs h';exact ⟨ns,rfl⟩
 |_=>dsimp only [tM] at h;injection h
theorem MT{R:BQ}{args:List WData}(h:wC R args [.list .int]=ao):∃ns:List Int,args= [.list (ns.map .int)]:=by
 induction args using aC with
 |nil=>injection h
 |cons x xs=>
  dsimp only [wC] at h;simp only [aS] at h;obtain ⟨ns,rfl⟩:=has_list h.1;induction xs using aC with
  |nil=>exact ⟨ns,rfl⟩
  |cons y ys=>have h2:=h.2;dsimp only [wC] at h2;injection h2
theorem KH:∀{ns:List Int}{vs:List ay},WellAll P h vs (ns.map .int)->bM [] (ns.map bD) vs:=by
 intro ns;induction ns with
 |nil=>intro vs W;obtain ⟨⟩:=W;trivial
 |cons n ns ih=>
  intro vs W;cases W with
  |cons w r=>
   cases w with
   |int i t=>exact ⟨⟨t,rfl⟩,ih r⟩
theorem KJ{ns:List Int}(W:WellAll P h vals [.list (ns.map .int)]):∃l vs,vals= [.ref l]/\h.get? l=af {cls:=.type "list",data:=.seq vs.toArray}/\bM [] (ns.map bD) vs:=by
 cases W with
 |cons w r=>
  obtain ⟨⟩:=r;cases w with
  |list ho hw=>exact ⟨_,_,rfl,ho,KH hw⟩
noncomputable abbrev pw:qJ:=PySem.Challenge.pw_nb0314_02
noncomputable def st(i:Nat):fY:=(pw.main.body[i]?).getD (.Pass ⟨0,0,0,0⟩)
noncomputable def V5:fY->List fY
 | .ClassDef _ _ _ b _ _ _ _ _ _ _=>b
 |_=>[]
noncomputable def stC(i j:Nat):fY:=((V5 (st i))[j]?).getD (.Pass ⟨0,0,0,0⟩)
noncomputable def fArgs:fY->Arguments
 | .FunctionDef _ a _ _ _ _ _ _ _ _=>a
 |_=>⟨[],[],ae,[],[],ae,[]⟩
noncomputable def fBody:fY->List fY
 | .FunctionDef _ _ b _ _ _ _ _ _ _=>b
 |_=>[]
noncomputable def fScope:fY->Scope
 | .FunctionDef _ _ _ _ _ _ c _ _ _=>c
 |_=>pw.main.scope
noncomputable def tabOf:fY->List (Option au × au)
 | .Assign _ (.Dict ks vs _) _=>ks.zip vs
 |_=>[]
noncomputable def V6:List (Option au × au)->List (Int × Str)
 |(af (.Constant (.int k) _ _),.Constant (.str v) _ _)::r=>(k,v)::V6 r
 |_=>[]
noncomputable def vF:List (Int × Str):=V6 (tabOf (st 10))
def tab:List DictEntry:=ents (vF.take 646) 445++ents2 (vF.drop 646) 2383
noncomputable def fn0(n q:Str)(s:fY):Obj:=⟨.none,ae,.func {name:=n,qualname:=q,params:=fArgs s,body:=.stmts (fBody s),scope:=fScope s,globals:=0,closure:=[],defaults:=.none,kwdefaults:=.none,doc:=.none,pyModule:=.none,annotations:=ae,code:=.none,closureTuple:=.none,builtins:=0},#[]⟩
noncomputable def fn1(n q:Str)(s:fY)(g:Nat)(d m c:ay):Obj:=⟨.type "function",ae,.func {name:=n,qualname:=q,params:=fArgs s,body:=.stmts (fBody s),scope:=fScope s,globals:=g,closure:=[],defaults:=d,kwdefaults:=.none,doc:=.none,pyModule:=m,annotations:=ae,code:=c,closureTuple:=.none,builtins:=0},#[]⟩
noncomputable def Lw:Obj:=⟨.type "tuple",ae,.seq #[] 0,#[]⟩
noncomputable def YS:Obj:=⟨.none,ae,.fields #[],#[]⟩
noncomputable def cd0(a:Array ay):Obj:=⟨.type "code",ae,.fields a,#[]⟩
noncomputable def en(P:eR)(k:Str)(t:Nat)(v:ay):DictEntry:=⟨PyData.keyHash P k,.str k t,v⟩
noncomputable def V7:List ay:=[.int 1 0,.int 0 0,.ref 20,.int 7 0,.int 0 0,.ref 27,.int 14 0,.int 0 0,.ref 51,.int 16 0,.int 0 0,.ref 64,.int 124 0,.int 0 0,.ref 158,.int 127 0,.int 0 0,.ref 204,.int 133 0,.int 0 0,.ref 209,.int 136 0,.int 0 0,.ref 216,.int 150 0,.int 0 0,.ref 221,.int 152 0,.int 0 0,.ref 228,.int 157 0,.int 0 0,.ref 233,.int 173 0,.int 0 0,.ref 238,.int 180 0,.int 0 0,.ref 243,.int 196 0,.int 0 0,.ref 248,.int 208 0,.int 0 0,.ref 253]
noncomputable def YT(k:Nat):Obj:=⟨.none,ae,.fields (V7.take k).toArray,#[]⟩
noncomputable def TQ(P:eR)(nm:ay):List DictEntry:=en P "__name__" 165 nm:: [en P "__doc__" 166 cq,en P "__package__" 167 cq,en P "__loader__" 168 (rx "__main__.__loader__#opaque"),en P "__spec__" 169 cq,en P "__annotations__" 170 (cC 6),en P "__builtins__" 171 (cC 4),en P "__file__" 173 (kr "/claim/cut.py" 172),en P "__cached__" 174 cq,en P "_wall" 193 (cC 21),en P "_NODE_OUT" 198 (zf (-1) 197),en P "_NODE_DONE" 201 (zf (-2) 200),en P "_NodeInfo" 238 (cC 40),en P "CycleError" 256 (cC 55),en P "TopologicalSorter" 375 (cC 137),en P "b1_set" 437 (cC 149),en P "in_table_b1" 444 (cC 159),en P "b3_exceptions" 2395 (cC 160),en P "map_table_b3" 2403 (cC 205),en P "_law_draws" 2411 (cC 210),en P "_law_written" 2422 (cC 217),en P "_law_read" 2428 (cC 222),en P "_law_prepared" 2436 (cC 229),en P "_law_run" 2442 (cC 234),en P "_law_opened" 2448 (cC 239),en P "_law_ring" 2454 (cC 244),en P "_law_due" 2460 (cC 249),en P "law" 2466 (cC 254)]
noncomputable def x3(P:eR)(nm:ay)(k n:Nat):Obj:=⟨.type "dict",ae,.dict ((TQ P nm).take k).toArray n,#[]⟩
noncomputable def YU(P:eR):Obj:=⟨.type "dict",ae,.dict #[en P "__module__" 209 (.str "cpy313.graphlib" 194),en P "__qualname__" 211 (.str "_NodeInfo" 210),en P "__firstlineno__" 213 (.int 7 212),en P "__slots__" 217 (.ref 29),en P "__init__" 225 (.ref 36),en P "__static_attributes__" 229 (.ref 37)] 6,#[]⟩
noncomputable def V8(P:eR):Obj:=⟨.type "dict",ae,.dict #[en P "__module__" 246 (.str "cpy313.graphlib" 194),en P "__firstlineno__" 250 (.int 14 249),en P "__static_attributes__" 251 (.ref 53),en P "__weakref__" 253 (.ref 56),en P "__doc__" 254 cq] 3,#[]⟩
noncomputable def o55(_:eR):Obj:=⟨.type "type",ae,.cls {name:= "CycleError",bases:=[.type "ValueError"],mro:=[.ref 55,.type "ValueError",.type "Exception",.type "BaseException",.type "object"],ns:=54,qualname:= "CycleError",hasDict:=ao,slotNames:=[],subclasses:=[],abstract:=bf,collection:=ae,hasDel:=bf},#[af (.ref 46),ae,af (.str "CycleError" 239),af (.str "CycleError" 247),af (.builtin "ValueError.__new__"),af (.bool ao)]⟩
noncomputable def Qa(P:eR):Obj:=⟨.type "set",ae,.set #[(65024,.int 65024 394),(65025,.int 65025 395),(65026,.int 65026 396),(65027,.int 65027 397),(65028,.int 65028 398),(65029,.int 65029 399),(6150,.int 6150 380),(65030,.int 65030 400),(65031,.int 65031 401),(65032,.int 65032 402),(65033,.int 65033 403),(6155,.int 6155 381),(6156,.int 6156 382),(6157,.int 6157 383),(8203,.int 8203 384),(8204,.int 8204 385),(8205,.int 8205 386),(65034,.int 65034 404),(65035,.int 65035 405),(65036,.int 65036 406),(65037,.int 65037 407),(65038,.int 65038 408),(65039,.int 65039 409),(173,.int 173 378),(847,.int 847 379),(8288,.int 8288 387),(65279,.int 65279 388)] 29 {mask:=127,place:= #[0,1,2,3,4,5,6,7,8,9,10,11,12,13,14,15,16,17,18,19,20,21,22,45,79,96,127],dummies:= #[],finger:=0,led:= !P.followText "set-order",moves:=2,plain:=ao},#[]⟩
def TU(_:eR):Obj:=⟨.type "dict",ae,.dict tab.toArray 650,#[]⟩
noncomputable def Vo(a:Array ay):Obj:=⟨.type "tuple",ae,.seq a 0,#[]⟩
noncomputable def YV(n q:Str)(t:Nat)(L a k:Int)(b:Bool)(r:Nat)(x y z:ay)(u:Int)(v:Nat):Obj:=cd0 #[.str n t,.str q (t+1),.str "/claim/cut.py" (t+2),.int L 0,.int a 0,.int 0 0,.int 0 0,.int k 0,.ref r,.bool b,.int 181 0,.ref (r+1),cq,x,y,z,.int u 0,.int L 0,.str "/claim/cut.py" v]
noncomputable def fC(n:Str)(t:Nat)(L:Int)(r:Nat)(u:Int)(v:Nat):Obj:=YV n n t L 0 0 bf r .none .none .none u v
noncomputable def fA(n q:Str)(s:fY)(m:ay)(d:ay)(t:Nat)(L a k:Int)(r:Nat)(ns:Array ay)(u:Int)(v:Nat)(e:List Obj):List Obj:=Lw::YS::Vo ns::Lw::fn0 n q s::YV n q t L a k ao r (.ref (r+2)) (.ref (r+3)) (.ref (r+4)) u v::fn1 n q s 3 d m (.ref (r+5))::e
noncomputable def fB(n q:Str)(s:fY)(m:ay)(t:Nat)(L a k:Int)(r:Nat)(u:Int)(v:Nat)(e:List Obj):List Obj:=Lw::YS::fn0 n q s::YV n q t L a k ao r .none .none (.ref (r+2)) u v::fn1 n q s 3 .none m (.ref (r+3))::e
def TV(P:eR)(x y:Obj):List Obj:=boot_o_0 P::boot_o_1 P::boot_o_2 P::x::boot_o_4 P::boot_o_5 P::boot_o_6 P::boot_o_7 P::boot_o_8 P::boot_o_9 P::boot_o_10 P::Lw::y::fC "<module>" 182 1 11 185 186::⟨.type "frame",ae,.plain,#[af (.ref 13),af (.ref 3),af (.ref 3),ae,af (.str "__main__" 164),ae,af (.ref 0)]⟩::fA "_wall" "_wall" (st 0) (.str "__main__" 164) .none 187 1 1 3 15 #[.str "k" 190] 191 192 (Lw::⟨.type "builtin_function_or_method",ae,.fields #[.builtin "type.__prepare__",.type "type"],#[]⟩::YU P::Lw::⟨.none,ae,.fields #[.int 10 0,.int 4 0,.ref 35],#[]⟩::fC "_NodeInfo" 204 7 25 207 208::⟨.type "frame",ae,.plain,#[af (.ref 27),af (.ref 3),af (.ref 24),ae,af (.str "cpy313.graphlib" 194),ae,af (.ref 0)]⟩::Vo #[.str "node" 214,.str "npredecessors" 215,.str "successors" 216]::fA "__init__" "_NodeInfo.__init__" (stC 4 1) (.str "cpy313.graphlib" 194) .none 218 10 2 3 30 #[.str "self" 221,.str "node" 222] 223 224 (Vo #[.str "node" 226,.str "npredecessors" 227,.str "successors" 228]::⟨.type "list",ae,.seq #[.str "node" 214,.str "npredecessors" 215,.str "successors" 216] 1,#[]⟩::⟨.type "dict",ae,.dict #[en P "__module__" 209 (.str "cpy313.graphlib" 194),en P "__firstlineno__" 213 (.int 7 212),en P "__slots__" 217 (.ref 29),en P "__init__" 225 (.ref 36),en P "__static_attributes__" 229 (.ref 37),en P "node" 231 (.ref 41),en P "npredecessors" 233 (.ref 42),en P "successors" 235 (.ref 43),en P "__doc__" 236 cq] 5,#[]⟩::⟨.type "type",ae,.cls {name:= "_NodeInfo",bases:=[.type "object"],mro:=[.ref 40,.type "object"],ns:=39,qualname:= "_NodeInfo",hasDict:=bf,slotNames:=["node","npredecessors","successors"],subclasses:=[],abstract:=bf,collection:=ae,hasDel:=bf},#[ae,ae,af (.str "_NodeInfo" 202),af (.str "_NodeInfo" 210),af (.builtin "object.__new__"),af (.bool bf)]⟩::⟨.type "member_descriptor",ae,.fields #[.str "node" 230,.ref 40,.builtin "proto.slot",.builtin "proto.slot#set",.int 2 0],#[]⟩::⟨.type "member_descriptor",ae,.fields #[.str "npredecessors" 232,.ref 40,.builtin "proto.slot",.builtin "proto.slot#set",.int 1 0],#[]⟩::⟨.type "member_descriptor",ae,.fields #[.str "successors" 234,.ref 40,.builtin "proto.slot",.builtin "proto.slot#set",.int 0 0],#[]⟩::⟨.type "super",ae,.fields #[.ref 40,.ref 40,.ref 40],#[]⟩::⟨.type "builtin_function_or_method",ae,.fields #[.builtin "object.__init_subclass__",.ref 40],#[]⟩::Vo #[.type "ValueError"]::⟨.type "builtin_function_or_method",ae,.fields #[.builtin "type.__prepare__",.type "type"],#[]⟩::⟨.type "dict",ae,.dict #[en P "__module__" 246 (.str "cpy313.graphlib" 194),en P "__qualname__" 248 (.str "CycleError" 247),en P "__firstlineno__" 250 (.int 14 249),en P "__static_attributes__" 251 (.ref 53)] 4,#[]⟩::Lw::YS::fC "CycleError" 241 14 49 244 245::⟨.type "frame",ae,.plain,#[af (.ref 51),af (.ref 3),af (.ref 48),ae,af (.str "cpy313.graphlib" 194),ae,af (.ref 0)]⟩::Lw::V8 P::o55 P::⟨.type "getset_descriptor",ae,.fields #[.str "__weakref__" 252,.ref 55,.builtin "ExceptionGroup.__weakref__",cq],#[]⟩::⟨.type "super",ae,.fields #[.ref 55,.ref 55,.ref 55],#[]⟩::⟨.type "builtin_function_or_method",ae,.fields #[.builtin "object.__init_subclass__",.ref 55],#[]⟩::Lw::⟨.type "builtin_function_or_method",ae,.fields #[.builtin "type.__prepare__",.type "type"],#[]⟩::⟨.type "dict",ae,.dict #[en P "__module__" 264 (.str "cpy313.graphlib" 194),en P "__qualname__" 266 (.str "TopologicalSorter" 265),en P "__firstlineno__" 268 (.int 16 267),en P "__init__" 278 (.ref 73),en P "_get_nodeinfo" 287 (.ref 80),en P "add" 299 (.ref 87),en P "prepare" 305 (.ref 92),en P "get_ready" 315 (.ref 99),en P "is_active" 322 (.ref 106),en P "__bool__" 329 (.ref 113),en P "done" 343 (.ref 120),en P "_find_cycle" 356 (.ref 127),en P "static_order" 363 (.ref 134),en P "__static_attributes__" 368 (.ref 135)] 14,#[]⟩::Lw::⟨.none,ae,.fields #[.int 18 0,.int 4 0,.ref 72,.int 27 0,.int 4 0,.ref 79,.int 32 0,.int 4 0,.ref 86,.int 41 0,.int 4 0,.ref 91,.int 49 0,.int 4 0,.ref 98,.int 60 0,.int 4 0,.ref 105,.int 65 0,.int 4 0,.ref 112,.int 68 0,.int 4 0,.ref 119,.int 91 0,.int 4 0,.ref 126,.int 120 0,.int 4 0,.ref 133],#[]⟩::fC "TopologicalSorter" 259 16 62 262 263::⟨.type "frame",ae,.plain,#[af (.ref 64),af (.ref 3),af (.ref 61),ae,af (.str "cpy313.graphlib" 194),ae,af (.ref 0)]⟩::Vo #[cq]::fA "__init__" "TopologicalSorter.__init__" (stC 6 0) (.str "cpy313.graphlib" 194) (.ref 66) 269 18 2 3 67 #[.str "self" 272,.str "graph" 273,.str "node" 274,.str "predecessors" 275] 276 277 (fA "_get_nodeinfo" "TopologicalSorter._get_nodeinfo" (stC 6 1) (.str "cpy313.graphlib" 194) .none 279 27 2 3 74 #[.str "self" 282,.str "node" 283,.str "result" 284] 285 286 (fA "add" "TopologicalSorter.add" (stC 6 2) (.str "cpy313.graphlib" 194) .none 288 32 2 7 81 #[.str "self" 291,.str "node" 292,.str "predecessors" 293,.str "nodeinfo" 294,.str "pred" 295,.str "pred_info" 296] 297 298 (fB "prepare" "TopologicalSorter.prepare" (stC 6 3) (.str "cpy313.graphlib" 194) 300 41 1 3 88 303 304 (fA "get_ready" "TopologicalSorter.get_ready" (stC 6 4) (.str "cpy313.graphlib" 194) .none 306 49 1 3 93 #[.str "self" 309,.str "result" 310,.str "n2i" 311,.str "node" 312] 313 314 (fA "is_active" "TopologicalSorter.is_active" (stC 6 5) (.str "cpy313.graphlib" 194) .none 316 60 1 3 100 #[.str "self" 319] 320 321 (fA "__bool__" "TopologicalSorter.__bool__" (stC 6 6) (.str "cpy313.graphlib" 194) .none 323 65 1 3 107 #[.str "self" 326] 327 328 (fA "done" "TopologicalSorter.done" (stC 6 7) (.str "cpy313.graphlib" 194) .none 330 68 1 7 114 #[.str "self" 333,.str "nodes" 334,.str "n2i" 335,.str "node" 336,.str "nodeinfo" 337,.str "stat" 338,.str "successor" 339,.str "successor_info" 340] 341 342 (fA "_find_cycle" "TopologicalSorter._find_cycle" (stC 6 8) (.str "cpy313.graphlib" 194) .none 344 91 1 3 121 #[.str "self" 347,.str "n2i" 348,.str "stack" 349,.str "itstack" 350,.str "seen" 351,.str "node2stacki" 352,.str "node" 353] 354 355 (fA "static_order" "TopologicalSorter.static_order" (stC 6 9) (.str "cpy313.graphlib" 194) .none 357 120 1 3 128 #[.str "self" 360] 361 362 (Vo #[.str "_nfinished" 364,.str "_node2info" 365,.str "_npassedout" 366,.str "_ready_nodes" 367]::⟨.type "dict",ae,.dict #[en P "__module__" 264 (.str "cpy313.graphlib" 194),en P "__firstlineno__" 268 (.int 16 267),en P "__init__" 278 (.ref 73),en P "_get_nodeinfo" 287 (.ref 80),en P "add" 299 (.ref 87),en P "prepare" 305 (.ref 92),en P "get_ready" 315 (.ref 99),en P "is_active" 322 (.ref 106),en P "__bool__" 329 (.ref 113),en P "done" 343 (.ref 120),en P "_find_cycle" 356 (.ref 127),en P "static_order" 363 (.ref 134),en P "__static_attributes__" 368 (.ref 135),en P "__dict__" 370 (.ref 138),en P "__weakref__" 372 (.ref 139),en P "__doc__" 373 cq] 4,#[]⟩::⟨.type "type",ae,.cls {name:= "TopologicalSorter",bases:=[.type "object"],mro:=[.ref 137,.type "object"],ns:=136,qualname:= "TopologicalSorter",hasDict:=ao,slotNames:=[],subclasses:=[],abstract:=bf,collection:=ae,hasDel:=bf},#[ae,ae,af (.str "TopologicalSorter" 257),af (.str "TopologicalSorter" 265),af (.builtin "object.__new__"),af (.bool ao)]⟩::⟨.type "getset_descriptor",ae,.fields #[.str "__dict__" 369,.ref 137,.builtin "function.__dict__",.builtin "function.__dict__#set"],#[]⟩::⟨.type "getset_descriptor",ae,.fields #[.str "__weakref__" 371,.ref 137,.builtin "ExceptionGroup.__weakref__",cq],#[]⟩::⟨.type "super",ae,.fields #[.ref 137,.ref 137,.ref 137],#[]⟩::⟨.type "builtin_function_or_method",ae,.fields #[.builtin "object.__init_subclass__",.ref 137],#[]⟩::⟨.type "list",ae,.seq #[.int 173 378,.int 847 379,.int 6150 380,.int 6155 381,.int 6156 382,.int 6157 383,.int 8203 384,.int 8204 385,.int 8205 386,.int 8288 387,.int 65279 388] 0,#[]⟩::⟨.type "range",ae,.fields #[.int 65024 389,.int 65040 390,.int 1 391],#[]⟩::⟨.type "list",ae,.seq #[.int 65024 394,.int 65025 395,.int 65026 396,.int 65027 397,.int 65028 398,.int 65029 399,.int 65030 400,.int 65031 401,.int 65032 402,.int 65033 403,.int 65034 404,.int 65035 405,.int 65036 406,.int 65037 407,.int 65038 408,.int 65039 409] 18,#[]⟩::⟨.type "range_iterator",ae,.fields #[.int 65040 0,.int 0 0,.int 1 0],#[]⟩::Lw::⟨.type "StopIteration",ae,.fields #[.ref 146,cq,cq,cq,.bool bf,cq],#[]⟩::⟨.type "list",ae,.seq #[.int 173 378,.int 847 379,.int 6150 380,.int 6155 381,.int 6156 382,.int 6157 383,.int 8203 384,.int 8204 385,.int 8205 386,.int 8288 387,.int 65279 388,.int 65024 394,.int 65025 395,.int 65026 396,.int 65027 397,.int 65028 398,.int 65029 399,.int 65030 400,.int 65031 401,.int 65032 402,.int 65033 403,.int 65034 404,.int 65035 405,.int 65036 406,.int 65037 407,.int 65038 408,.int 65039 409] 0,#[]⟩::Qa P::⟨.type "list_iterator",ae,.fields #[cq,.int 27 0],#[]⟩::Lw::⟨.type "StopIteration",ae,.fields #[.ref 151,cq,cq,cq,.bool bf,cq],#[]⟩::fA "in_table_b1" "in_table_b1" (st 9) (.str "cpy313.stringprep" 376) .none 438 124 1 3 153 #[.str "code" 441] 442 443 (TU P::⟨.type "dict",ae,.dict ((tab.drop 17).take 17).toArray 17,#[]⟩::⟨.type "dict",ae,.dict ((tab.drop 34).take 17).toArray 17,#[]⟩::⟨.type "dict",ae,.dict ((tab.drop 51).take 17).toArray 17,#[]⟩::⟨.type "dict",ae,.dict ((tab.drop 68).take 17).toArray 17,#[]⟩::⟨.type "dict",ae,.dict ((tab.drop 85).take 17).toArray 17,#[]⟩::⟨.type "dict",ae,.dict ((tab.drop 102).take 17).toArray 17,#[]⟩::⟨.type "dict",ae,.dict ((tab.drop 119).take 17).toArray 17,#[]⟩::⟨.type "dict",ae,.dict ((tab.drop 136).take 17).toArray 17,#[]⟩::⟨.type "dict",ae,.dict ((tab.drop 153).take 17).toArray 17,#[]⟩::⟨.type "dict",ae,.dict ((tab.drop 170).take 17).toArray 17,#[]⟩::⟨.type "dict",ae,.dict ((tab.drop 187).take 17).toArray 17,#[]⟩::⟨.type "dict",ae,.dict ((tab.drop 204).take 17).toArray 17,#[]⟩::⟨.type "dict",ae,.dict ((tab.drop 221).take 17).toArray 17,#[]⟩::⟨.type "dict",ae,.dict ((tab.drop 238).take 17).toArray 17,#[]⟩::⟨.type "dict",ae,.dict ((tab.drop 255).take 17).toArray 17,#[]⟩::⟨.type "dict",ae,.dict ((tab.drop 272).take 17).toArray 17,#[]⟩::⟨.type "dict",ae,.dict ((tab.drop 289).take 17).toArray 17,#[]⟩::⟨.type "dict",ae,.dict ((tab.drop 306).take 17).toArray 17,#[]⟩::⟨.type "dict",ae,.dict ((tab.drop 323).take 17).toArray 17,#[]⟩::⟨.type "dict",ae,.dict ((tab.drop 340).take 17).toArray 17,#[]⟩::⟨.type "dict",ae,.dict ((tab.drop 357).take 17).toArray 17,#[]⟩::⟨.type "dict",ae,.dict ((tab.drop 374).take 17).toArray 17,#[]⟩::⟨.type "dict",ae,.dict ((tab.drop 391).take 17).toArray 17,#[]⟩::⟨.type "dict",ae,.dict ((tab.drop 408).take 17).toArray 17,#[]⟩::⟨.type "dict",ae,.dict ((tab.drop 425).take 17).toArray 17,#[]⟩::⟨.type "dict",ae,.dict ((tab.drop 442).take 17).toArray 17,#[]⟩::⟨.type "dict",ae,.dict ((tab.drop 459).take 17).toArray 17,#[]⟩::⟨.type "dict",ae,.dict ((tab.drop 476).take 17).toArray 17,#[]⟩::⟨.type "dict",ae,.dict ((tab.drop 493).take 17).toArray 17,#[]⟩::⟨.type "dict",ae,.dict ((tab.drop 510).take 17).toArray 17,#[]⟩::⟨.type "dict",ae,.dict ((tab.drop 527).take 17).toArray 17,#[]⟩::⟨.type "dict",ae,.dict ((tab.drop 544).take 17).toArray 17,#[]⟩::⟨.type "dict",ae,.dict ((tab.drop 561).take 17).toArray 17,#[]⟩::⟨.type "dict",ae,.dict ((tab.drop 578).take 17).toArray 17,#[]⟩::⟨.type "dict",ae,.dict ((tab.drop 595).take 17).toArray 17,#[]⟩::⟨.type "dict",ae,.dict ((tab.drop 612).take 17).toArray 17,#[]⟩::⟨.type "dict",ae,.dict ((tab.drop 629).take 17).toArray 17,#[]⟩::⟨.type "dict",ae,.dict ((tab.drop 646).take 4).toArray 4,#[]⟩::fA "map_table_b3" "map_table_b3" (st 11) (.str "cpy313.stringprep" 376) .none 2396 127 1 3 199 #[.str "code" 2399,.str "r" 2400] 2401 2402 (fB "_law_draws" "_law_draws" (st 13) (.str "law_nb0314_02" 2404) 2406 133 1 3 206 2409 2410 (fA "_law_written" "_law_written" (st 14) (.str "law_nb0314_02" 2404) .none 2412 136 1 3 211 #[.str "draw" 2415,.str "letter" 2416,.str "place" 2417,.str "dress" 2418,.str "sign" 2419] 2420 2421 (fB "_law_read" "_law_read" (st 15) (.str "law_nb0314_02" 2404) 2423 150 1 3 218 2426 2427 (fA "_law_prepared" "_law_prepared" (st 16) (.str "law_nb0314_02" 2404) .none 2429 152 1 3 223 #[.str "sorter" 2432,.str "error" 2433] 2434 2435 (fB "_law_run" "_law_run" (st 17) (.str "law_nb0314_02" 2404) 2437 157 1 3 230 2440 2441 (fB "_law_opened" "_law_opened" (st 18) (.str "law_nb0314_02" 2404) 2443 173 2 3 235 2446 2447 (fB "_law_ring" "_law_ring" (st 19) (.str "law_nb0314_02" 2404) 2449 180 1 3 240 2452 2453 (fB "_law_due" "_law_due" (st 20) (.str "law_nb0314_02" 2404) 2455 196 1 3 245 2458 2459 (fB "law" "law" (st 21) (.str "law_nb0314_02" 2404) 2461 208 1 3 250 2464 2465 ([])))))))))))))))))))))))
noncomputable def mkT(l:List Obj):BT:=(l.foldl (λ(x:BT × Nat) o=>(x.1.ins x.2 o,x.2+1)) (BT.nil,0)).1
def A5(nm:ay)(k3 n3 k12 n tk:Nat)(w:jw)(os:gO):SharedT:=⟨mkT ((TV w.params (x3 w.params nm k3 n3) (YT k12)).take n),n,(gY w.params).life,#[],gc,tk,os⟩
noncomputable def nm0:ay:=kr "__main__" 164
noncomputable def Vp:ay:=kr "cpy313.graphlib" 194
noncomputable def V9:ay:=kr "cpy313.stringprep" 376
noncomputable def O1:ay:=kr "law_nb0314_02" 2404
abbrev SF:=jw->gO->SharedT
def S0:SF:=A5 nm0 9 9 0 15 187
def S1:SF:=A5 nm0 10 10 3 22 194
def S2:SF:=A5 Vp 10 10 3 22 196
def S3:SF:=A5 Vp 11 11 3 22 199
def S4:SF:=A5 Vp 12 12 3 22 202
def S5:SF:=A5 Vp 13 13 6 46 239
def S6:SF:=A5 Vp 14 14 9 59 257
def S7:SF:=A5 Vp 15 15 12 142 376
def S8:SF:=A5 V9 15 15 12 142 378
def S9:SF:=A5 V9 16 16 12 153 438
def YW:SF:=A5 V9 17 17 15 160 445
def YX:SF:=A5 V9 18 18 15 199 2396
def S12:SF:=A5 V9 19 19 18 206 2404
def S13:SF:=A5 O1 19 19 18 206 2406
def S14:SF:=A5 O1 20 20 21 211 2412
def S15:SF:=A5 O1 21 21 24 218 2423
def S16:SF:=A5 O1 22 22 27 223 2429
def S17:SF:=A5 O1 23 23 30 230 2437
def S18:SF:=A5 O1 24 24 33 235 2443
def S19:SF:=A5 O1 25 25 36 240 2449
def S20:SF:=A5 O1 26 26 39 245 2455
def S21:SF:=A5 O1 27 27 42 250 2461
def Wa:SF:=A5 O1 28 28 45 255 2467
noncomputable def q0:Pos:=⟨0,0,0,0⟩
noncomputable def s8:Env:={scope:=pw.main.scope,locals:=mainNs,globals:=mainNs,cells:=[],code:=.ref 13,frame:=af 14}
noncomputable def cE:Code:=.body (sD pw) s8
noncomputable def B0:List Frame:=[topFrame q0]
abbrev Pc(n:Nat)(a b:SF)(i:Nat)(p q:Pos):Prop:=∀w os,segRunT eZ pw w 11 (af (.ref 6)) 1 n (a w os) (piecesOf [st i] s8 cE p B0)=af (.next,b w os,cE,q)
theorem p0:Pc 30 S0 S1 0 q0 ⟨1,0,3,12⟩:=λw os=>by
 kernel_rfl
theorem p1:Pc 10 S1 S2 1 ⟨1,0,3,12⟩ ⟨4,0,4,8⟩:=λw os=>by
 kernel_rfl
theorem p2:Pc 15 S2 S3 2 ⟨4,0,4,8⟩ ⟨5,0,5,9⟩:=λw os=>by
 kernel_rfl
theorem p3:Pc 15 S3 S4 3 ⟨5,0,5,9⟩ ⟨6,0,6,10⟩:=λw os=>by
 kernel_rfl
theorem p4:Pc 264 S4 S5 4 ⟨6,0,6,10⟩ ⟨7,0,13,28⟩:=λw os=>by
 rw [gS,gU];kernel_rfl
theorem p5:Pc 187 S5 S6 5 ⟨7,0,13,28⟩ ⟨14,0,15,8⟩:=λw os=>by
 kernel_rfl
theorem p6:Pc 528 S6 S7 6 ⟨14,0,15,8⟩ ⟨16,0,121,16⟩:=λw os=>by
 rw [gS,gU];kernel_rfl
theorem p7:Pc 10 S7 S8 7 ⟨16,0,121,16⟩ ⟨122,0,122,8⟩:=λw os=>by
 kernel_rfl
theorem p8:Pc 1298 S8 S9 8 ⟨122,0,122,8⟩ ⟨123,0,123,6⟩:=by
 refine byRow2 "set-order" (byRow2 "special-get-raises" ?_ ?_) (byRow2 "special-get-raises" ?_ ?_);all_goals
  intro w os;rw [gS,gU];kernel_rfl
theorem p9:Pc 30 S9 YW 9 ⟨123,0,123,6⟩ ⟨124,0,125,30⟩:=λw os=>by
 kernel_rfl
theorem p11:Pc 31 YX S12 11 ⟨126,0,126,13⟩ ⟨127,0,131,23⟩:=λw os=>by
 kernel_rfl
theorem p12:Pc 10 S12 S13 12 ⟨127,0,131,23⟩ ⟨132,0,132,8⟩:=λw os=>by
 kernel_rfl
theorem p13:Pc 27 S13 S14 13 ⟨132,0,132,8⟩ ⟨133,0,135,75⟩:=λw os=>by
 kernel_rfl
theorem p14:Pc 34 S14 S15 14 ⟨133,0,135,75⟩ ⟨136,0,149,80⟩:=λw os=>by
 kernel_rfl
theorem p15:Pc 27 S15 S16 15 ⟨136,0,149,80⟩ ⟨150,0,151,87⟩:=λw os=>by
 kernel_rfl
theorem p16:Pc 31 S16 S17 16 ⟨150,0,151,87⟩ ⟨152,0,156,38⟩:=λw os=>by
 kernel_rfl
theorem p17:Pc 27 S17 S18 17 ⟨152,0,156,38⟩ ⟨157,0,172,43⟩:=λw os=>by
 kernel_rfl
theorem p18:Pc 27 S18 S19 18 ⟨157,0,172,43⟩ ⟨173,0,179,18⟩:=λw os=>by
 kernel_rfl
theorem p19:Pc 27 S19 S20 19 ⟨173,0,179,18⟩ ⟨180,0,195,35⟩:=λw os=>by
 kernel_rfl
theorem p20:Pc 27 S20 S21 20 ⟨180,0,195,35⟩ ⟨196,0,207,75⟩:=λw os=>by
 kernel_rfl
theorem p21:Pc 27 S21 Wa 21 ⟨196,0,207,75⟩ ⟨208,0,215,44⟩:=λw os=>by
 kernel_rfl
noncomputable def RZ:fY->Pos
 | .Assign _ _ p=>p
 |_=>⟨0,0,0,0⟩
noncomputable def s9:fY->Pos
 | .Assign _ (.Dict _ _ p) _=>p
 |_=>⟨0,0,0,0⟩
noncomputable def KL:fY->List au
 | .Assign ts _ _=>ts
 |_=>[]
noncomputable def Qb:List (List (Int × Str)):=(mQ 37).map λi=>(vF.drop (17*(i+1))).take 17
noncomputable def HI(v:ay):Sem Flow:=assignStores s8 v ae ((iG (KL (st 10)) s8).map (·.2))
theorem yV:vF=vF.take 17++Qb.flatten++vF.drop 646:=by kernel_rfl
theorem A6:rising (vF.map (·.1))=ao:=by kernel_rfl
theorem MU:(vF.all λx=>decide (0<=x.1)&&decide (x.1<2305843009213693951))=ao:=by kernel_rfl
theorem TX:exec (st 10) s8=(do lj (RZ (st 10));lj (s9 (st 10));dictDisplay (itemsOf (s9 (st 10)) vF))>>=HI:=by kernel_rfl
theorem I5:Qb.length=37:=by kernel_rfl
theorem TY:(Qb.all λc=>c.length==17)=ao:=by kernel_rfl
def Lb(w:jw):List Obj:=(TV w.params (x3 w.params (kr "cpy313.stringprep" 376) 17 17) (YT 15)).take 160
theorem HJ(w:jw):(Lb w).length=160:=by kernel_rfl
theorem Qc(w:jw)(os:gO):(YW w os).abs=sh (Lb w) (gY w.params).life #[] gc 445 os:=by kernel_rfl
def YY(w:jw):List Obj:=Lb w++dictOf (ents (vF.take 17++Qb.flatten) 445++ents2 (vF.drop 646) 2383) 650::(subsOf Qb 496++ [dictOf (ents2 (vF.drop 646) 2383) 4])
theorem Qd(w:jw)(os:gO)(K:Flow->Sem PySem.Fin)(H:ay->Sem PySem.Fin)(p:Pos):
  topGo eZ pw w 11 (af (.ref 6)) 7 (sh (YY w) (gY w.params).life #[] gc 2395 os) ⟨(HI (.ref 160)).wrap K H id id,cE,p,B0⟩=af ((YX w os).abs,⟨K .next,cE,⟨126,0,126,13⟩,B0⟩):=by kernel_rfl
theorem DI:(vF.drop 646).length=4:=by kernel_rfl
theorem MV:(vF.take 17).length=17:=by kernel_rfl
theorem p10(w:jw)(os:gO)(N:Nat)(r:aM)(rest:List fY)(h:vb eZ pw w 11 (af (.ref 6)) N (YX w os).abs (zm rest s8 cE ⟨126,0,126,13⟩ B0)=af r):
  vb eZ pw w 11 (af (.ref 6)) (N+14000) (YW w os).abs (zm ([st 10]++rest) s8 cE ⟨124,0,125,30⟩ B0)=af r:=by
 have ok:∀x∈vF.take 17++Qb.flatten++vF.drop 646,tS x.1:=λx hx=>by
  rw [←yV] at hx;have:=bK.mp MU x hx;simpa using this
 have nd:((vF.take 17++Qb.flatten++vF.drop 646).map (·.1)).Nodup:=by
  rw [←yV];exact sR _ A6
 have h17:∀c∈Qb,c.length=17:=λc hc=>by simpa using bK.mp TY c hc
 have D:=Dh (pr:=pw) (w:=w) (n₀:=11) (ann:=af (.ref 6)) (pos:=s9 (st 10)) (L:=Lb w) (life:=(gY w.params).life) (g:= #[]) (dr:=gc) (tk:=445) (os:=os)
  (by rw [HJ];decide) (by rw [HJ];decide) (vF.take 17) (vF.drop 646) Qb MV h17 (by intro q;have:=DI;rw [q] at this;cases this) (by rw [DI];decide) (by rw [I5];decide) ok nd
 rw [I5,DI,HJ,←yV] at D;have D':=bJ (by decide) (n:=340*39+2) (n₁:=1) (n₂:=340*39+1) (f:=λ_=>(do lj (s9 (st 10));dictDisplay (itemsOf (s9 (st 10)) vF))) (sQ (pr:=pw) (w:=w) (n₀:=11) (ann:=af (.ref 6)) (q:=RZ (st 10))) (bJ (by decide) (n:=340*39+1) (n₁:=1) (n₂:=340*(37+2)) (f:=λ_=>dictDisplay (itemsOf (s9 (st 10)) vF)) (sQ (pr:=pw) (w:=w) (n₀:=11) (ann:=af (.ref 6)) (q:=s9 (st 10))) D);obtain ⟨p',hp⟩:=D' (λv=>(HI v).wrap (λf=>match f with| .next=>(execs rest s8).wrap doneF (leaveH s8) id id|f=>doneF f) (leaveH s8) id id) (leaveH s8) id id cE ⟨124,0,125,30⟩ B0;have t:=go_top (Qd w os (λf=>match f with| .next=>(execs rest s8).wrap doneF (leaveH s8) id id|f=>doneF f) (leaveH s8) p') h;have t':=hp _ r t;rw [Qc];unfold zm;rw [List.singleton_append,execs_cons_wrap,TX,yi,nj];have t'':=zQ (N+14000-(7+N+(340*39+2))) _ _ _ _ t';rw [show 7+N+(340*39+2)+(N+14000-(7+N+(340*39+2)))=N+14000 from fG (ai (ar (congrArg (· +13262) (cF 7 _))) (bE (ak rfl:13269<=14000) _))] at t'';exact t''
def HF(P:eR):pO:=⟨(TV P (x3 P (kr "law_nb0314_02" 2404) 28 28) (YT 45)).toArray,(gY P).life⟩
theorem Qe(w:jw)(os:gO):(Wa w os).abs=⟨HF w.params,#[],gc,2467,os⟩:=by kernel_rfl
theorem Qf(w:jw)(os:gO):vb eZ pw w 11 (af (.ref 6)) 2 (Wa w os).abs (zm [] s8 cE ⟨208,0,215,44⟩ B0)=af (Wa w os).abs:=by kernel_rfl
theorem TZ(w:jw)(os:gO):topGo eZ pw w 11 (af (.ref 6)) 12 ⟨gY w.params,#[],gc,zo,os⟩ (topStub pw)=af ((S0 w os).abs,⟨denote eZ cE,cE,⟨0,0,0,0⟩,B0⟩):=by kernel_rfl
theorem KN(w:jw)(os:gO):segRun eZ pw w 11 (af (.ref 6)) 1 1 (S0 w os).abs (blockOf (sD pw) s8 cE ⟨0,0,0,0⟩ B0)=af (.next,(S0 w os).abs,cE,q0):=by kernel_rfl
theorem Cf{a b:SF}{p q:Pos}(h:Pc n a b i p q){os:gO}{N:Nat}{r:aM}{rest:List fY}(k:vb eZ pw w 11 (af (.ref 6)) N (b w os).abs (zm rest s8 cE q B0)=af r):vb eZ pw w 11 (af (.ref 6)) (n+N) (a w os).abs (zm ([st i]++rest) s8 cE p B0)=af r:=
 piece_app (q:=q0) (l:=[st i]) (segRun_of (h w os)) k
noncomputable def R0:List fY:=[st 0]++([st 1]++([st 2]++([st 3]++([st 4]++([st 5]++([st 6]++([st 7]++([st 8]++([st 9]++([st 10]++([st 11]++([st 12]++([st 13]++([st 14]++([st 15]++([st 16]++([st 17]++([st 18]++([st 19]++([st 20]++([st 21]++ [])))))))))))))))))))))
theorem Qg:sD pw=R0:=by kernel_rfl
theorem YZ(w:jw)(os:gO):vb eZ pw w 11 (af (.ref 6)) 17000 ⟨gY w.params,#[],gc,zo,os⟩ (topStub pw)=af ⟨HF w.params,#[],gc,2467,os⟩:=by
 rw [←Qe w os];have k:=Qf w os;replace k:=Cf p21 k;replace k:=Cf p20 k;replace k:=Cf p19 k;replace k:=Cf p18 k;replace k:=Cf p17 k;replace k:=Cf p16 k;replace k:=Cf p15 k;replace k:=Cf p14 k;replace k:=Cf p13 k;replace k:=Cf p12 k;replace k:=Cf p11 k;replace k:=p10 w os _ _ _ k;replace k:=Cf p9 k;replace k:=Cf p8 k;replace k:=Cf p7 k;replace k:=Cf p6 k;replace k:=Cf p5 k;replace k:=Cf p4 k;replace k:=Cf p3 k;replace k:=Cf p2 k;replace k:=Cf p1 k;replace k:=Cf p0 k;have b:=KN w os;have k':vb eZ pw w 11 (af (.ref 6)) _ (S0 w os).abs (zm R0 s8 cE q0 B0)=af (Wa w os).abs:=k;rw [←Qg] at k';have k'':=go_top (TZ w os) (piece_block (q:=q0) b k');have e:=zQ (17000-16697) _ _ _ _ k'';exact e
noncomputable def qv:qJ:={pw with main:={pw.main with body:=[st 0,st 1,st 2,st 3,st 5,st 6,st 7,st 9,st 11,st 12,st 13,st 14,st 15,st 16,st 17,st 18,st 19,st 20,st 21]}}
noncomputable def A7:List Str:=[ah "_NodeInfo",ah "b1_set",ah "b3_exceptions"]
def KF(P:eR):r8:=(mQ 255).zip (HF P).objs.toList
theorem Qh(P:eR):mQ 255=(KF P).map (·.1):=by kernel_rfl
noncomputable abbrev Xt0:aM->Bool:=λs=>xlAt qv [] s&&recOk [] s
abbrev Hk:Hook:=kHook KF (mQ 255) Qh
theorem Wb:∀w:jw,(fencedOpening eZ pw w 40000).map (λs=>(s.heap,s.gens,s.drawn,s.toks))=af (gY w.params,GB [],gc,zo):=
 boot_open (by kernel_rfl) (by rfl) (λs=>by kernel_rfl)
theorem Wc(w:jw):((gY w.params).isNs gu&&(GB []:Array nK).size==0,(gY w.params).objs.size,(gY w.params).nsMap gu "__annotations__")=(ao,11,af (.ref 6)):=by kernel_rfl
theorem Wd(w:jw)(os:gO):(staticsOk (importedModules pw.main.body) (gY w.params) (HF w.params)&&namesBound pw (HF w.params)&&gensDone ⟨HF w.params,#[],gc,2467,os⟩&&laidKept (gY w.params) (HF w.params))=ao:=by kernel_rfl
theorem We(w:jw)(os:gO):Hk.obs ⟨HF w.params,#[],gc,2467,os⟩=Hk.val w:=by kernel_rfl
theorem Wf(w:jw)(os:gO):openSeen qv A7 (importedModules pw.main.body) Xt0 ao ⟨HF w.params,#[],gc,2467,os⟩=openGood qv A7:=by
 unfold openSeen openGood;refine jl ?_ (jl ?_ (jl ?_ (jl ?_ (jl ?_ (jl ?_ (jl ?_ (jl ?_ ?_)))))));all_goals kernel_rfl
theorem Wg:LeftO pw qv A7 Xt0 Hk.obs Hk.val 40000:=
 LeftO.of_pieces (H₀:=gY) (H₁:=HF) (gs₀:=GB []) (gs₁:= #[]) (d₀:=gc) (d₁:=gc) (k₀:=zo) (k₁:=2467) (m₀:=11) (ann:=af (.ref 6)) (M:=17000)
  Wb Wc YZ (by rfl) (λw=>funext λos=>jl (Wd w os) (jl (Wf w os) (We w os)))
noncomputable def Y0:fY->Pos
 | .FunctionDef _ _ _ _ _ _ _ _ _ p=>p
 |_=>⟨0,0,0,0⟩
noncomputable def dl:DefRec:={name:=ah "law",params:=fArgs (st 21),body:=fBody (st 21),scope:=fScope (st 21),pos:=Y0 (st 21)}
theorem Wh:dU.wellSaid=ao:=by kernel_rfl
theorem Wi(hc:WalkO qv A7 (XL qv []) Hk.says dU.row.toRowW dl [] λf vs=>PySem.call f vs):dU.Holds:=by
 refine holds_law Wh λsaid=>?_;refine holds_open (q:=qv) (loose:=A7) (Xt:=λs=>xlAt qv [] s&&recOk (RowW.records dU.row.toRowW) s) (XP:=XL qv []) (Yf:=Hk.obs) (Ya:=Hk.val) (YP:=Hk.says) (N:=40000) Wg Hk.of Hk.keeps
  (λs e=>xl_of s (vn.mp e).1) XL.keeps (by kernel_rfl) (by kernel_rfl) (by kernel_rfl) (λs e=>recFacts_of (vn.mp e).2) (by rfl) (by assumption) (by decide+kernel) ⟨rfl,rfl,rfl,rfl,rfl,by decide+kernel⟩ ?hw hc
 case hw=>w_witness2
theorem qX{x:bk}:∀(l:r8),(l.filter λp=>p.1 != x).lookup a=if a=x then ae else l.lookup a
 | []=>by simp
 |(b,o)::r=>by
  refine ky▸ ?_;by_cases hb:b=x
  ·subst hb;simp only [bne_self_eq_false,cR,if_false];refine (qX r).trans ?_;by_cases ha:a=b
   ·simp [ha]
   ·rw [if_neg ha,if_neg ha,cz];have:(a==b)=bf:=by simpa using ha
    exact (this)▸rfl
  ·have h1:(b != x)=ao:=by simpa using hb
   simp only [h1,if_true];rw [cz,cz];induction hab:a==b using cG with
   |true=>simp only;(exact (if_neg (by rw [beq_iff_eq.mp hab];exact hb)).symm)
   |false=>simp only;exact qX r
def Kw(P:eR):r8:=(KF P).filter λp=>p.1 != 24
noncomputable def h0(h:pO):pO:=hideAll h [24]
def Vq:List (Int × V):=vF.map λp=>(p.1,.str p.2)
noncomputable def Y1:List (Int × Nat):=[(65024,394),(65025,395),(65026,396),(65027,397),(65028,398),(65029,399),(6150,380),(65030,400),(65031,401),(65032,402),(65033,403),(6155,381),(6156,382),(6157,383),(8203,384),(8204,385),(8205,386),(65034,404),(65035,405),(65036,406),(65037,407),(65038,408),(65039,409),(173,378),(847,379),(8288,387),(65279,388)]
noncomputable def T1:List Int:=Y1.map (·.1)
def cT(l:bk)(ns:List Int):List (bk × O):=[(160,.qt Vq),(149,.B5 T1),(l,.list (ns.map .int))]
theorem Wj{b:bk}{o:Obj}(e:(h0 h).get? b=af o):h.get? b=af o:=of_hideAll _ e
theorem tV{b:bk}{o:Obj}(e:h.get? b=af o)(hb:b≠24):(h0 h).get? b=af o:=hideAll_get _ e (by simpa using hb)
theorem Qi:(h0 h).get? 24=ae:=hideAll_none _ (by exact fm)
theorem Wk(Y:(KF w.params).In h):(Kw w.params).In (h0 h):=λa o e=>by
 dsimp only [Kw] at e;rw [qX] at e;split at e
 ·exact nn e
 ·rename_i ha
  exact tV (Y _ _ e) ha
theorem I6(P:eR):(KF P).lookup 160=af (TU P):=by kernel_rfl
theorem I7(P:eR):(KF P).lookup 149=af (Qa P):=by kernel_rfl
theorem MW(P:eR):(KF P).lookup 55=af (o55 P):=by kernel_rfl
theorem MX(P:eR):(KF P).lookup 54=af (V8 P):=by kernel_rfl
theorem MY(P:eR):(KF P).lookup 24=af (YU P):=by kernel_rfl
theorem T2(P:eR):((KF P).lookup 1).isSome=ao:=by kernel_rfl
theorem wR{k:Int}(h1:0<=k)(h2:k<2305843009213693951):hashInt k=k:=by
 have e1:(k.natAbs:Int)=k:=nI h1;have e2:((2^61-1:Nat):Int)=2305843009213693951:=by decide
 have n1:¬((k== -1)=ao):=λh=>by have:=beq_iff_eq.mp h;exact absurd (e1.trans this) (Int.ne_of_gt (pP (by decide) (d0 _)))
 have hr:rawHash k=k:=by
  dsimp only [rawHash];have n0:¬k<0:=e1▸mO.mpr (d0 _);simp only [e1,e2,yj h1 h2,n0,if_false];exact (if_neg n1)
 dsimp only [hashInt];rw [hr,if_neg n1]
theorem I8:∀(ps:List (Int × Str)) (t:Nat),(ps.all λx=>decide (0<=x.1)&&decide (x.1<2305843009213693951))=ao->∃kvs,Pairs (iO pr w) (ents ps t) kvs/\kvs.map (·.1)=ps.map (·.1)/\cY [] (ps.map λp=>(p.1,bc p.2)) kvs/\∀e∈ents ps t,∃k,(iO pr w).is k e.key=ao/\e.hash=(iO pr w).hash k
 | [],t,_=>⟨[],.nil,rfl,trivial,λe h=>nomatch h⟩
 |x::r,t,h=>by
  rw [iD,aS,aS,decide_eq_true_eq,decide_eq_true_eq] at h;obtain ⟨kvs,k1,k2,k3,k4⟩:=I8 r (t+3) h.2;refine ⟨(x.1,.str x.2 (t+1))::kvs,.cons (A8 x.1 t) rfl k1,by simp [k2],⟨⟨rfl,_,rfl⟩,k3⟩,λe he=>?_⟩;rcases jJ he with rfl|he
  ·exact ⟨x.1,A8 x.1 t,(wR h.1.1 h.1.2).symm⟩
  ·exact k4 e he
where
 A8 (k:Int) (t:Nat):(iO pr w).is k (.int k t)=ao:=isInt_self (x:=k) (t:=t)
theorem Fu:∀(ps:List (Int × Str)) (t:Nat),(ps.all λx=>decide (0<=x.1)&&decide (x.1<2305843009213693951))=ao->∃kvs,Pairs (iO pr w) (ents2 ps t) kvs/\kvs.map (·.1)=ps.map (·.1)/\cY [] (ps.map λp=>(p.1,bc p.2)) kvs/\∀e∈ents2 ps t,∃k,(iO pr w).is k e.key=ao/\e.hash=(iO pr w).hash k
 | [],t,_=>⟨[],.nil,rfl,trivial,λe h=>nomatch h⟩
 |x::r,t,h=>by
  rw [iD,aS,aS,decide_eq_true_eq,decide_eq_true_eq] at h;obtain ⟨kvs,k1,k2,k3,k4⟩:=Fu r (t+2) h.2;refine ⟨(x.1,.str x.2 (t+1))::kvs,.cons (A8 x.1 t) rfl k1,by simp [k2],⟨⟨rfl,_,rfl⟩,k3⟩,λe he=>?_⟩;rcases jJ he with rfl|he
  ·exact ⟨x.1,A8 x.1 t,(wR h.1.1 h.1.2).symm⟩
  ·exact k4 e he
where
 A8 (k:Int) (t:Nat):(iO pr w).is k (.int k t)=ao:=isInt_self (x:=k) (t:=t)
theorem DJ{es es':List DictEntry}{kvs kvs':List (Int × ay)}(h:Pairs (iO pr w) es kvs)(h':Pairs (iO pr w) es' kvs'):Pairs (iO pr w) (es++es') (kvs++kvs'):=by
 induction h with
 |nil=>exact h'
 |cons a b r ih=>exact .cons a b ih
theorem DK{es es':List (Int × V)}{kvs kvs':List (Int × ay)}(h:cY ρ es kvs)(h':cY ρ es' kvs'):cY ρ (es++es') (kvs++kvs'):=
 h.by (P:=λes kvs=>cY ρ (es++es') (kvs++kvs')) h' λa v es w kvs r _ ih=>(show cY ρ ((a,v)::(es++es')) ((a,w)::(kvs++kvs')) from ⟨⟨rfl,r⟩,ih⟩)
theorem T4:ou pr w [] (.qt Vq) (TU w.params):=by
 have hok:=MU;have XO:((vF.take 646).all λx=>decide (0<=x.1)&&decide (x.1<2305843009213693951))=ao/\((vF.drop 646).all λx=>decide (0<=x.1)&&decide (x.1<2305843009213693951))=ao:=by
  rw [←mD 646 vF,List.all_append,aS] at hok;exact hok
 refine Dc (I8 (w:=w) (pr:=pr) (vF.take 646) 445 XO.1) λkvs a1 a2 a3 a4=>?_;refine Dc (Fu (w:=w) (pr:=pr) (vF.drop 646) 2383 XO.2) λkvs' b1 b2 b3 b4=>?_;refine ⟨tab.toArray,650,kvs++kvs',⟨rfl,rfl,rfl⟩,rfl,λe he=>?_,?_,?_,?_⟩
 ·have he':e∈ents (vF.take 646) 445++ents2 (vF.drop 646) 2383:=by simpa [tab] using he
  rcases aG.mp he' with h|h
  ·exact a4 e h
  ·exact b4 e h
 ·show Pairs _ (tab.toArray.toList) _;exact DJ a1 b1
 ·rw [cw,a2,b2,←cw,mD];exact sR _ A6
 ·have:=DK a3 b3;rw [←cw,mD] at this;exact this
theorem Wl:(Y1.all λx=>decide (0<=x.1)&&decide (x.1<2305843009213693951))=ao:=by decide
theorem T5:ou pr w [] (.B5 T1) (Qa w.params):=by
 have es:(Qa w.params)=⟨.type "set",ae,.set (Y1.map λp=>(p.1,zf p.1 p.2)).toArray 29 {mask:=127,place:= #[0,1,2,3,4,5,6,7,8,9,10,11,12,13,14,15,16,17,18,19,20,21,22,45,79,96,127],dummies:= #[],finger:=0,led:= !w.params.followText "set-order",moves:=2,plain:=ao},#[]⟩:=rfl;rw [es];refine ⟨_,_,_,⟨rfl,rfl,rfl⟩,rfl,λe he=>?_,λk=>?_,by decide,by rfl,by rfl⟩
 ·simp only [aT] at he;refine aR he λp hp q'1=>?_;obtain rfl:=q'1;have:=bK.mp Wl p hp;rw [aS,decide_eq_true_eq,decide_eq_true_eq] at this;exact ⟨⟨p.1,isInt_self (t:=p.2),(wR this.1 this.2).symm⟩,rfl⟩
 ·constructor
  ·intro h;have h:=iK h;refine aR (aT.mp h) λp hp q'2=>?_;obtain rfl:=q'2;exact ⟨(p.1,.int p.1 p.2),by simp only [aT];exact ⟨p,hp,rfl⟩,isInt_self (t:=p.2)⟩
  ·rintro ⟨e,he,hk⟩;simp only [aT] at he;refine aR he λp hp q'3=>?_;obtain rfl:=q'3;have hk':vi k (.int p.1 p.2)=ao:=hk;simp only [vi,beq_iff_eq] at hk';subst hk';exact decide_eq_true (aT.mpr ⟨p,hp,rfl⟩)
noncomputable abbrev Y2:=dU.row.toRowW
def KO(P:eR):Array DictEntry:=match (V8 P).data with
 | .dict es _=>es
 |_=> #[]
theorem MZ(P:eR):StrKeys (KO P):=by
 intro e he;have he':e∈(KO P).toList:=by simpa using he
 dsimp only [KO,V8] at he';simp only [aZ,de,or_false] at he';rcases he' with rfl|rfl|rfl|rfl|rfl<;>exact ⟨_,_,rfl⟩
theorem CU(P:eR):∀n∈quietNames,tB (KO P) n=ae:=by
 intro n hn;simp only [quietNames,aZ,de,or_false] at hn;rcases hn with rfl|rfl|rfl|rfl<;>kernel_rfl
theorem I9(e:h.get? 54=af (V8 P)):h.Ns 54 (tB (KO P)):=⟨_,KO P,3,e,rfl,MZ P,λ_=>rfl⟩
theorem T6(e:h.get? 24=af (YU P)):∃m,h.Ns 24 m:=by
 refine ⟨_,_,_,_,e,rfl,?_,λ_=>rfl⟩;intro e he;simp only [List.mem_toArray,aZ,de,or_false] at he;rcases he with rfl|rfl|rfl|rfl|rfl|rfl<;>exact ⟨_,_,rfl⟩
def ctx(w:jw)(h:pO)(Y:(KF w.params).In h)(l:bk)(ns:List Int)(vs:List ay)(hl:h.get? l=af {cls:=.type "list",data:=.seq vs.toArray})(hv:bM [] (ns.map bD) vs)(hn:ns.length<=63)(hsys:(l==sysModules)=bf)(hlim:h.NoLimit)(hg:∃mg,h.Ns gu mg)(hb:∃mb,h.Ns builtinsNs mb/\∀x:Str,x≠("__name__" :Str)->mb x=tA x):lH where
 pr:=pw
 w:=w
 h₀:=h0 h
 K:=Kw w.params
 aj:=cT l ns
 isIn:=Wk Y
 top:=λa o e=>by
  dsimp only [cT] at e;rw [cz] at e;split at e
  ·rename_i ha
   have ha:a=160:=beq_iff_eq.mp ha;(injection e with e;subst e);subst ha;exact ⟨_,tV (Y _ _ (I6 _)) (by decide),T4⟩
  ·rw [cz] at e;split at e
   ·rename_i ha
    have ha:a=149:=beq_iff_eq.mp ha;(injection e with e;subst e);subst ha;exact ⟨_,tV (Y _ _ (I7 _)) (by decide),T5⟩
   ·rw [cz] at e;split at e
    ·rename_i ha
     have ha:a=l:=beq_iff_eq.mp ha;(injection e with e;subst e);subst ha;have hlen:=hv.length;rw [aH] at hlen;refine ⟨_,tV hl (λq=>?_),vs.toArray,0,rfl,by simpa using hv,by refine gB▸ ?_;exact ai (ai (ar hlen.symm) hn) (ak rfl)⟩;subst q;have:=Y _ _ (MY _);rw [hl] at this;have hc:=congrArg Obj.cls (t5 this);have hc':gG "list" =gG "dict" :=hc;injection hc' with hc'
     exact absurd hc' (by decide)
    ·exact nn e
 Ha:=λa o e=>by
  dsimp only [cT] at e;rw [cz] at e;split at e
  ·rename_i ha
   have ha:a=160:=beq_iff_eq.mp ha;subst ha;rfl
  ·rw [cz] at e;split at e
   ·rename_i ha
    have ha:a=149:=beq_iff_eq.mp ha;subst ha;rfl
   ·rw [cz] at e;split at e
    ·rename_i ha
     have ha:a=l:=beq_iff_eq.mp ha;subst ha;exact hsys
    ·exact nn e
 VR:=by
  obtain ⟨o,ho⟩:=iE.mp (T2 w.params);exact ⟨o,tV (Y _ _ ho) (by decide)⟩
 ie:=[55]
 args:=λ{A E s a C t0 o fs Q} hC hk ha hc hd h0' q=>by
  obtain rfl:=aL.mp hC;obtain ⟨hp,g,dr,tk,os⟩:=s;have h55:=hk _ _ (tV (Y _ _ (MW _)) (by decide));have h54:=hk _ _ (tV (Y _ _ (MX _)) (by decide));exact args_attr_own PySem.F.attrBase_ValueError (nm:=ah "CycleError") (q:=ah "CycleError") (C:=55) (N:=54) (bm:=[.type "ValueError",.type "Exception",.type "BaseException",.type "object"]) h55 (I9 h54) (CU _) .base ha hc hd h0' q
 lim:=by
  refine aR hlim λmc q'1 h3=>?_;refine gj q'1 λo es n h1 h2=>?_;exact ⟨mc,⟨o,es,n,tV h1 (by decide),h2⟩,h3⟩
 gl:=by
  refine LB hg λmg o es n h1 h2=>?_;exact ⟨mg,o,es,n,tV h1 (by decide),h2⟩
 bl:=by
  refine aR hb λmb q'2 h3=>?_;refine gj q'2 λo es n h1 h2=>?_;exact ⟨mb,⟨o,es,n,tV h1 (by decide),h2⟩,h3⟩
theorem Wm{w h Y l ns vs hl hv hn hsys hlim hg hb}:xP (ctx w h Y l ns vs hl hv hn hsys hlim hg hb):=λC hC=>by
 obtain rfl:=aL.mp (show C∈ [55] from hC);refine ⟨ah "CycleError",ah "CycleError",54,[.type "ValueError"],[.type "ValueError",.type "Exception",.type "BaseException",.type "object"],ao,[],[],bf,ae,ae,_,_,_,_,_,"ValueError.__new__","ValueError.__init__","ValueError",_,tV (Y _ _ (MW _)) (by decide),PySem.F.excBase_ValueError,I9 (tV (Y _ _ (MX _)) (by decide)),CU _ _ (by exact fm)⟩
theorem Qj{ns:List Int}(h:Y2.pre.holds Y2.records {args:=[.list (ns.map .int)]}=ao):ns.length<=63:=by
 have e:Y2.pre= .and (.not (.lt (.lit (.int 63)) (.len (.arg 0)))) (.lit (.bool ao)):=by rfl
 rw [e] at h;dsimp only [WTm.holds] at h;dsimp only [WTm.value,List.getElem?_cons_zero] at h;have hl:less? (vU 63) (vU ((ns.map vU).length:Nat))=af (decide ((63:Int)<((ns.map vU).length:Nat))):=rfl;rw [hl] at h;by_cases hz:(63:Int)<((ns.map vU).length:Nat)
 ·rw [decide_eq_true hz] at h;injection h
 ·rw [aH] at hz;exact jd.mp (mO.mp hz)
theorem T7(aA:∀(P:eR) (l:bk) (ns:List Int),l≠160->l≠149->ns.length<=63->∃os',callC (Kw P) (cT l ns) [55] 200 20 (.top 254) [.top l] [] []=af (.ret (.bool ao),os')):dU.Holds:=by
 refine Wi λw s_0 s₁ mg mb G Y a o pm cd doc dV kV ha hd hcode hdf hmg hg args vals as hpre hlay hrd XQ hsys=>?_;obtain ⟨hp1,hp2⟩:=pre_splitW hpre;obtain ⟨ns,rfl⟩:=MT hp1;have hlen:=Qj hp2;refine ck (KJ XQ) λl vs q'3 hl hv=>?_;obtain rfl:=q'3;have Y':(KF w.params).In s₁.heap:=Y;have ZT:nsIn (KF w.params) gu "law" =af (af (.ref 254)):=by kernel_rfl
 have ha':a=254:=by
  have:=mg_of Y' G.T.g ZT;rw [show mg "law" =af (.ref a) from hmg] at this;obtain ⟨⟩:=this;rfl
 subst ha';have XR:(l==sysModules)=bf:=by
  refine hsys l ?_;cases hrd with
  |cons r1 r2=>cases r1 with|list h1 h2 h3 h4=>exact fm
 let B:=ctx w s₁.heap Y' l ns vs hl hv hlen XR G.T.nolimit ⟨mg,G.T.g⟩ ⟨mb,G.T.b,G.T.builtins⟩
 have ne:∀(k:bk) (ob:Obj),(KF w.params).lookup k=af ob->ob.cls≠ .type "list" ->l≠k:=λk ob hk hc q=>by
  subst q;have:=Y' _ _ hk;rw [hl] at this;have hq:=congrArg Obj.cls (t5 this);exact hc hq.symm
 obtain ⟨os',hcall⟩:=aA w.params l ns (ne 160 _ (I6 _) (by intro h;have h':gG "dict" =gG "list" :=h;injection h' with h';exact absurd h' (by decide))) (ne 149 _ (I7 _) (by intro h;have h':gG "set" =gG "list" :=h;injection h' with h';exact absurd h' (by decide))) hlen;obtain ⟨m24,ZU⟩:=T6 (Y' _ _ (MY _));have hfd:∃t d fd sl,B.K.lookup 254=af ⟨t,d,.func fd,sl⟩:=by
  have:((Kw w.params).lookup 254).any (λo=>match o.data with| .func _=>ao|_=>bf)=ao:=by kernel_rfl
  induction hq:(Kw w.params).lookup 254 using aw with
  |none=>rw [hq] at this;injection this
  |some ob=>
   rw [hq] at this;obtain ⟨t,d,dt,sl⟩:=ob;obtain ⟨⟩:=dt<;>first|exact ⟨_,_,_,_,hq⟩|injection this
 refine gM hfd λt d fd sl hK=>?_;refine TP B Wm (n:=19) (fuel:=200) hK (Xa:=24) (m:=m24) (λb o e=>Wj e) ZU Qi hg (as:=[.top l]) ⟨rfl,trivial⟩ (by decide) (by decide) hcall λs' hk hgs hos=>?_;refine ⟨.inl ⟨.bool ao,.bool ao,[],rfl,λcls=>by rfl,.bool ao,by wrow_post,λ_=>⟨dz,λa h=>nomatch h⟩⟩,.of_keep hk,hos,.of_eq (hgs.trans hg)⟩
abbrev zI:=V->List V->List O->List Nat->Option (CR × List O)
def cx(P:eR)(aj:List (bk × O))(cQ:zI)(hd:Bool):Cx:=⟨Kw P,aj,cQ,200,hd,[55]⟩
@[reducible] def cN(P:eR)(aj:List (bk × O)):Nat->zI:=callC (Kw P) aj [55] 200
@[reducible] def cy(P:eR)(aj:List (bk × O))(n:Nat):Cx:=cx P aj (cN P aj n) ao
def setM(x:Str)(v:V):M Unit:=λ_ s=>af ((),{s with fr:=putF s.fr x v})
def goM:List Str->List V->M Unit
 |x::xs,v::vs=>setM x v>>=λ_=>goM xs vs
 | [],[]=>aA ()
 |_,_=>fail
def DL(c:Cx)(xs:List Str)(v:V):M Unit:=eu c v>>=λob=>ff ob.uA λvs=>if vs.length=xs.length then goM xs vs else fail
noncomputable def fh(l:List (Str × Option V)):eB:=l.filterMap λp=>p.2.map λv=>(p.1,v)
def fg(ups:eB->eB)(body:eB->Nat->Src->M Unit)(src:Src):M V:=alloc (.list [])>>=λacc=>ff acc.nu λi z s=>(body (ups s.fr) i src z ⟨[],s.os⟩).map λr=>(acc,⟨s.fr,r.2.os⟩)
@[reducible] def eL(v:V):M (List V):=aA []>>=λvs=>aA (v::vs)
@[reducible] def mw(_:α):M Unit:=aA ()
@[reducible] def jH(_:α):M Fl:=aA bp
@[reducible] def pe(v:V):M Fl:=aA (Fl.ret v)
section
variable(P:eR)(aj:List (bk × O))(n:Nat)(c d:Cx)
def j0:M Fl:=
 (seqM ((bw "node")>>=λv=>(((bw "self")>>=λov=>ec c ov "node" v)>>=mw)>>=jH)
  (seqM ((aA (bD (0)))>>=λv=>(((bw "self")>>=λov=>ec c ov "npredecessors" v)>>=mw)>>=jH)
  (seqM (((aA [])>>=λvs=>alloc (.list vs))>>=λv=>(((bw "self")>>=λov=>ec c ov "successors" v)>>=mw)>>=jH)
  (aA bp))))
def qY:M Fl:=
 (seqM ((alloc (.dict []))>>=λv=>(((bw "self")>>=λov=>ec c ov "_node2info" v)>>=mw)>>=jH)
  (seqM ((aA fX)>>=λv=>(((bw "self")>>=λov=>ec c ov "_ready_nodes" v)>>=mw)>>=jH)
  (seqM ((aA (bD (0)))>>=λv=>(((bw "self")>>=λov=>ec c ov "_npassedout" v)>>=mw)>>=jH)
  (seqM ((aA (bD (0)))>>=λv=>(((bw "self")>>=λov=>ec c ov "_nfinished" v)>>=mw)>>=jH)
  (seqM ((((bw "graph")>>=λa=>(aA fX)>>=λb=>cmpC c vp a b)>>=cP c)>>=λt=>if t=ao then (seqM fail
  (aA bp)) else (aA bp))
  (aA bp))))))
def ly:M Fl:=
 (seqM (((((((bw "self")>>=λov=>eE c ov "_node2info")>>=λov=>ez c ov "get" >>=λm=>((bw "node")>>=eL)>>=λas=>eK c ov m as>>=ef)>>=λv=>setM "result" v>>=λ_=>aA v)>>=λa=>(aA fX)>>=λb=>cmpC c sE a b)>>=cP c)>>=λt=>if t=ao then (seqM ((((bw "node")>>=eL)>>=λas=>dN c (qQ 40) as>>=ef)>>=λv=>((((bw "self")>>=λov=>eE c ov "_node2info")>>=λov=>(bw "node")>>=λiv=>ny c ov iv v)>>=λ_=>(setM "result" v>>=λ_=>(aA ())))>>=jH)
  (aA bp)) else (aA bp))
  (seqM ((bw "result")>>=pe)
  (aA bp)))
theorem oc(v0 v1:V)(os:List O)(z:List Nat):cN P aj (n+1) (.top 80) [v0,v1] os z=nA (ly (cy P aj n) z ⟨[("self",v0),("node",v1)],os⟩):=by kernel_rfl
def pg(v:V):M Fl:=
 setM "pred" v>>=λ_=>(seqM (((bw "self")>>=λov=>ez c ov "_get_nodeinfo" >>=λm=>((bw "pred")>>=eL)>>=λas=>eK c ov m as>>=ef)>>=λv=>(setM "pred_info" v>>=mw)>>=jH)
  (seqM ((((bw "pred_info")>>=λov=>eE c ov "successors")>>=λov=>ez c ov "append" >>=λm=>((bw "node")>>=eL)>>=λas=>eK c ov m as>>=ef)>>=jH)
  (aA bp)))
def xQ:M Fl:=
 (seqM (((((bw "self")>>=λov=>eE c ov "_ready_nodes")>>=λa=>(aA fX)>>=λb=>cmpC c vp a b)>>=cP c)>>=λt=>if t=ao then (seqM fail
  (aA bp)) else (aA bp))
  (seqM (((bw "self")>>=λov=>ez c ov "_get_nodeinfo" >>=λm=>((bw "node")>>=eL)>>=λas=>eK c ov m as>>=ef)>>=λv=>(setM "nodeinfo" v>>=mw)>>=jH)
  (seqM ((bw "nodeinfo")>>=λov=>eE c ov "npredecessors" >>=λold=>(((bw "predecessors")>>=eL)>>=λas=>dN c (zp "len") as>>=ef)>>=λv=>ES fL old v>>=λnew=>ec c ov "npredecessors" new>>=jH)
  (seqM ((bw "predecessors")>>=λv=>gN c v>>=λsrc=>dk src.fz (fU (λv=>pg c v) src.items))
  (aA bp)))))
def fF(uq:eB)(acc:Nat)(v:V):M Unit:=
 setM "i" v>>=λ_=>(((((bw "i")>>=λov=>eE c ov "npredecessors")>>=λa=>(aA (bD (0)))>>=λb=>cmpC c kU a b)>>=cP c)>>=λt=>if t=ao then (aA ao) else aA bf)>>=λt=>if t=ao then (((bw "i")>>=λov=>eE c ov "node")>>=λv=>i4 c acc v) else aA ()
def uO(uq:eB)(acc:Nat)(src:Src):M Unit:=
 dk src.fz (fu (λv=>fF c uq acc v) src.items)
def lL:M Fl:=
 (seqM (((((bw "self")>>=λov=>eE c ov "_ready_nodes")>>=λa=>(aA fX)>>=λb=>cmpC c vp a b)>>=cP c)>>=λt=>if t=ao then (seqM fail
  (aA bp)) else (aA bp))
  (seqM (((((bw "self")>>=λov=>eE c ov "_node2info")>>=λov=>ez c ov "values" >>=λm=>(aA [])>>=λas=>eK c ov m as>>=ef)>>=λit=>gN c it>>=λsrc=>fg (λfr=>fh []) (λuq i src=>uO c uq i src) src)>>=λv=>(((bw "self")>>=λov=>ec c ov "_ready_nodes" v)>>=mw)>>=jH)
  (seqM (((bw "self")>>=λov=>ez c ov "_find_cycle" >>=λm=>(aA [])>>=λas=>eK c ov m as>>=ef)>>=λv=>(setM "cycle" v>>=mw)>>=jH)
  (seqM (((bw "cycle")>>=cP c)>>=λt=>if t=ao then (seqM (((aA (bc "nodes are in a cycle"))>>=λv=>((bw "cycle")>>=eL)>>=λvs=>aA (v::vs))>>=λas=>G5 55 as)
  (aA bp)) else (aA bp))
  (aA bp)))))
theorem Cg(v0:V)(os:List O)(z:List Nat):cN P aj (n+1) (.top 92) [v0] os z=nA (lL (cy P aj n) z ⟨[("self",v0)],os⟩):=by kernel_rfl
def gV(v:V):M Fl:=
 setM "node" v>>=λ_=>(seqM ((aA (bD (-1)))>>=λv=>((((bw "n2i")>>=λov=>(bw "node")>>=λiv=>d8 c ov iv)>>=λov=>ec c ov "npredecessors" v)>>=mw)>>=jH)
  (aA bp))
def ph:M Fl:=
 (seqM (((((bw "self")>>=λov=>eE c ov "_ready_nodes")>>=λa=>(aA fX)>>=λb=>cmpC c sE a b)>>=cP c)>>=λt=>if t=ao then (seqM fail
  (aA bp)) else (aA bp))
  (seqM (((((bw "self")>>=λov=>eE c ov "_ready_nodes")>>=eL)>>=λas=>dN c (pZ "tuple") as>>=ef)>>=λv=>(setM "result" v>>=mw)>>=jH)
  (seqM (((bw "self")>>=λov=>eE c ov "_node2info")>>=λv=>(setM "n2i" v>>=mw)>>=jH)
  (seqM ((bw "result")>>=λv=>gN c v>>=λsrc=>dk src.fz (fU (λv=>gV c v) src.items))
  (seqM ((((bw "self")>>=λov=>eE c ov "_ready_nodes")>>=λov=>ez c ov "clear" >>=λm=>(aA [])>>=λas=>eK c ov m as>>=ef)>>=jH)
  (seqM ((bw "self")>>=λov=>eE c ov "_npassedout" >>=λold=>(((bw "result")>>=eL)>>=λas=>dN c (zp "len") as>>=ef)>>=λv=>ES fL old v>>=λnew=>ec c ov "_npassedout" new>>=jH)
  (seqM ((bw "result")>>=pe)
  (aA bp))))))))
theorem zX(v0:V)(os:List O)(z:List Nat):cN P aj (n+1) (.top 99) [v0] os z=nA (ph (cy P aj n) z ⟨[("self",v0)],os⟩):=by kernel_rfl
def lM:M Fl:=
 (seqM (((((bw "self")>>=λov=>eE c ov "_ready_nodes")>>=λa=>(aA fX)>>=λb=>cmpC c sE a b)>>=cP c)>>=λt=>if t=ao then (seqM fail
  (aA bp)) else (aA bp))
  (seqM (((((bw "self")>>=λov=>eE c ov "_nfinished")>>=λa=>((bw "self")>>=λov=>eE c ov "_npassedout")>>=λb=>cmpC c CmpOp.Lt a b)>>=λx=>cP c x>>=λt=>if t=ao then aA x else ((((bw "self")>>=λov=>eE c ov "_ready_nodes")>>=eL)>>=λas=>dN c (pZ "bool") as>>=ef))>>=pe)
  (aA bp)))
theorem zY(v0:V)(os:List O)(z:List Nat):cN P aj (n+1) (.top 106) [v0] os z=nA (lM (cy P aj n) z ⟨[("self",v0)],os⟩):=by kernel_rfl
def ig(v:V):M Fl:=
 setM "successor" v>>=λ_=>(seqM (((bw "n2i")>>=λov=>(bw "successor")>>=λiv=>d8 c ov iv)>>=λv=>(setM "successor_info" v>>=mw)>>=jH)
  (seqM ((bw "successor_info")>>=λov=>eE c ov "npredecessors" >>=λold=>(aA (bD (1)))>>=λv=>ES yD old v>>=λnew=>ec c ov "npredecessors" new>>=jH)
  (seqM (((((bw "successor_info")>>=λov=>eE c ov "npredecessors")>>=λa=>(aA (bD (0)))>>=λb=>cmpC c kU a b)>>=cP c)>>=λt=>if t=ao then (seqM ((((bw "self")>>=λov=>eE c ov "_ready_nodes")>>=λov=>ez c ov "append" >>=λm=>((bw "successor")>>=eL)>>=λas=>eK c ov m as>>=ef)>>=jH)
  (aA bp)) else (aA bp))
  (aA bp))))
def lD(v:V):M Fl:=
 setM "node" v>>=λ_=>(seqM ((((((bw "n2i")>>=λov=>ez c ov "get" >>=λm=>((bw "node")>>=eL)>>=λas=>eK c ov m as>>=ef)>>=λv=>setM "nodeinfo" v>>=λ_=>aA v)>>=λa=>(aA fX)>>=λb=>cmpC c sE a b)>>=cP c)>>=λt=>if t=ao then (seqM fail
  (aA bp)) else (aA bp))
  (seqM (((bw "nodeinfo")>>=λov=>eE c ov "npredecessors")>>=λv=>(setM "stat" v>>=mw)>>=jH)
  (seqM ((((bw "stat")>>=λa=>(aA (bD (-1)))>>=λb=>cmpC c vq a b)>>=cP c)>>=λt=>if t=ao then (seqM ((((bw "stat")>>=λa=>(aA (bD (0)))>>=λb=>cmpC c CmpOp.GtE a b)>>=cP c)>>=λt=>if t=ao then (seqM fail
  (aA bp)) else (seqM ((((bw "stat")>>=λa=>(aA (bD (-2)))>>=λb=>cmpC c kU a b)>>=cP c)>>=λt=>if t=ao then (seqM fail
  (aA bp)) else (seqM fail
  (aA bp)))
  (aA bp)))
  (aA bp)) else (aA bp))
  (seqM ((aA (bD (-2)))>>=λv=>(((bw "nodeinfo")>>=λov=>ec c ov "npredecessors" v)>>=mw)>>=jH)
  (seqM (((bw "nodeinfo")>>=λov=>eE c ov "successors")>>=λv=>gN c v>>=λsrc=>dk src.fz (fU (λv=>ig c v) src.items))
  (seqM ((bw "self")>>=λov=>eE c ov "_nfinished" >>=λold=>(aA (bD (1)))>>=λv=>ES fL old v>>=λnew=>ec c ov "_nfinished" new>>=jH)
  (aA bp)))))))
def yW:M Fl:=
 (seqM (((((bw "self")>>=λov=>eE c ov "_ready_nodes")>>=λa=>(aA fX)>>=λb=>cmpC c sE a b)>>=cP c)>>=λt=>if t=ao then (seqM fail
  (aA bp)) else (aA bp))
  (seqM (((bw "self")>>=λov=>eE c ov "_node2info")>>=λv=>(setM "n2i" v>>=mw)>>=jH)
  (seqM ((bw "nodes")>>=λv=>gN c v>>=λsrc=>dk src.fz (fU (λv=>lD c v) src.items))
  (aA bp))))
def i9:M Bool:=
 ((aA (BS ao))>>=cP c)
def ja:M Bool:=
 ((bw "stack")>>=cP c)
def pj:M Fl:=
 (seqM (aA Fl.brk)
  (aA bp))
def pk:M Fl:=
 (seqM ((bw "node2stacki")>>=λov=>((bw "stack")>>=λov=>ez c ov "pop" >>=λm=>(aA [])>>=λas=>eK c ov m as>>=ef)>>=λiv=>xA c ov iv>>=jH)
  (seqM (((bw "itstack")>>=λov=>ez c ov "pop" >>=λm=>(aA [])>>=λas=>eK c ov m as>>=ef)>>=jH)
  (aA bp)))
def fV:M Fl:=
 (seqM (((bw "itstack")>>=λov=>((aA (bD (1)))>>=GZ)>>=λiv=>d8 c ov iv)>>=λfv=>uE c (setM "node") (pj) (pk d) fv)
  (aA bp))
def dx:M Fl:=
 (seqM ((((bw "node")>>=λa=>(bw "seen")>>=λb=>cmpC c ke a b)>>=cP c)>>=λt=>if t=ao then (seqM ((((bw "node")>>=λa=>(bw "node2stacki")>>=λb=>cmpC c ke a b)>>=cP c)>>=λt=>if t=ao then (seqM ((((bw "stack")>>=λov=>((bw "node2stacki")>>=λov=>(bw "node")>>=λiv=>d8 c ov iv)>>=λlv=>(aA fX)>>=λuv=>(aA fX)>>=λsv=>lu c ov lv uv sv)>>=λa=>(((bw "node")>>=eL)>>=λvs=>alloc (.list vs))>>=λb=>binC c fL a b)>>=pe)
  (aA bp)) else (aA bp))
  (aA bp)) else (seqM (((bw "seen")>>=λov=>ez c ov "add" >>=λm=>((bw "node")>>=eL)>>=λas=>eK c ov m as>>=ef)>>=jH)
  (seqM (((bw "itstack")>>=λov=>ez c ov "append" >>=λm=>(((((((bw "n2i")>>=λov=>(bw "node")>>=λiv=>d8 c ov iv)>>=λov=>eE c ov "successors")>>=eL)>>=λas=>dN c (zp "iter") as>>=ef)>>=λov=>eE c ov "__next__")>>=eL)>>=λas=>eK c ov m as>>=ef)>>=jH)
  (seqM ((((bw "stack")>>=eL)>>=λas=>dN c (zp "len") as>>=ef)>>=λv=>(((bw "node2stacki")>>=λov=>(bw "node")>>=λiv=>ny c ov iv v)>>=mw)>>=jH)
  (seqM (((bw "stack")>>=λov=>ez c ov "append" >>=λm=>((bw "node")>>=eL)>>=λas=>eK c ov m as>>=ef)>>=jH)
  (aA bp))))))
  (seqM (hU (ja c) (fV c d) (seqM (aA Fl.brk)
  (aA bp)) 200)
  (aA bp)))
def c4(v:V):M Fl:=
 setM "node" v>>=λ_=>(seqM ((((bw "node")>>=λa=>(bw "seen")>>=λb=>cmpC c ke a b)>>=cP c)>>=λt=>if t=ao then (seqM (aA Fl.cont)
  (aA bp)) else (aA bp))
  (seqM (hU (i9 c) (dx c d) (aA bp) 200)
  (aA bp)))
def iS:M Fl:=
 (seqM (((bw "self")>>=λov=>eE c ov "_node2info")>>=λv=>(setM "n2i" v>>=mw)>>=jH)
  (seqM (((aA [])>>=λvs=>alloc (.list vs))>>=λv=>(setM "stack" v>>=mw)>>=jH)
  (seqM (((aA [])>>=λvs=>alloc (.list vs))>>=λv=>(setM "itstack" v>>=mw)>>=jH)
  (seqM (((aA [])>>=λas=>dN c (pZ "set") as>>=ef)>>=λv=>(setM "seen" v>>=mw)>>=jH)
  (seqM ((alloc (.dict []))>>=λv=>(setM "node2stacki" v>>=mw)>>=jH)
  (seqM ((bw "n2i")>>=λv=>gN c v>>=λsrc=>dk src.fz (fU (λv=>c4 c d v) src.items))
  (seqM ((aA fX)>>=pe)
  (aA bp))))))))
theorem xR(v0:V)(os:List O)(z:List Nat):cN P aj (n+1) (.top 127) [v0] os z=nA (iS (cy P aj n) (cx P aj (cN P aj n) bf) z ⟨[("self",v0)],os⟩):=by kernel_rfl
def we:M Fl:=
 (seqM (((((bw "code")>>=eL)>>=λas=>dN c (zp "ord") as>>=ef)>>=λa=>(aA (qQ 149))>>=λb=>cmpC c ke a b)>>=pe)
  (aA bp))
theorem A9(v0:V)(os:List O)(z:List Nat):cN P aj (n+1) (.top 159) [v0] os z=nA (we (cy P aj n) z ⟨[("code",v0)],os⟩):=by kernel_rfl
def pn:M Fl:=
 (seqM (((aA (qQ 160))>>=λov=>ez c ov "get" >>=λm=>((((bw "code")>>=eL)>>=λas=>dN c (zp "ord") as>>=ef)>>=eL)>>=λas=>eK c ov m as>>=ef)>>=λv=>(setM "r" v>>=mw)>>=jH)
  (seqM ((((bw "r")>>=λa=>(aA fX)>>=λb=>cmpC c vp a b)>>=cP c)>>=λt=>if t=ao then (seqM ((bw "r")>>=pe)
  (aA bp)) else (aA bp))
  (seqM (((bw "code")>>=λov=>ez c ov "lower" >>=λm=>(aA [])>>=λas=>eK c ov m as>>=ef)>>=pe)
  (aA bp))))
theorem zZ(v0:V)(os:List O)(z:List Nat):cN P aj (n+1) (.top 205) [v0] os z=nA (pn (cy P aj n) z ⟨[("code",v0)],os⟩):=by kernel_rfl
def pq(uq:eB)(acc:Nat)(v:V):M Unit:=
 setM "x" v>>=λ_=>(aA ao)>>=λt=>if t=ao then (((bw "x")>>=λa=>(aA (bD (80)))>>=λb=>binC c oM a b)>>=λv=>i4 c acc v) else aA ()
def pz(uq:eB)(acc:Nat)(src:Src):M Unit:=
 dk src.fz (fu (λv=>pq c uq acc v) src.items)
def xS:M Fl:=
 (seqM ((((bw "script")>>=λov=>(aA fX)>>=λlv=>(aA (bD (12)))>>=λuv=>(aA fX)>>=λsv=>lu c ov lv uv sv)>>=λit=>gN c it>>=λsrc=>fg (λfr=>fh []) (λuq i src=>pz c uq i src) src)>>=λv=>(setM "draws" v>>=mw)>>=jH)
  (seqM (((bw "draws")>>=λa=>(((aA [(bD (9)),(bD (72)),(bD (4)),(bD (18)),(bD (5)),(bD (15)),(bD (6)),(bD (75)),(bD (61)),(bD (64)),(bD (66)),(bD (2))])>>=λvs=>alloc (.list vs))>>=λov=>(((bw "draws")>>=eL)>>=λas=>dN c (zp "len") as>>=ef)>>=λlv=>(aA fX)>>=λuv=>(aA fX)>>=λsv=>lu c ov lv uv sv)>>=λb=>binC c fL a b)>>=pe)
  (aA bp)))
theorem Ci(v0:V)(os:List O)(z:List Nat):cN P aj (n+1) (.top 210) [v0] os z=nA (xS (cy P aj n) z ⟨[("script",v0)],os⟩):=by kernel_rfl
def qA:M Fl:=
 (seqM ((((((((aA [(bD (173)),(bD (847)),(bD (6150)),(bD (8203)),(bD (8205)),(bD (8288)),(bD (65024)),(bD (65279))])>>=λvs=>alloc (.list vs))>>=λov=>((bw "draw")>>=λa=>(aA (bD (8)))>>=λb=>binC c oM a b)>>=λiv=>d8 c ov iv)>>=eL)>>=λas=>dN c (zp "chr") as>>=ef)>>=λv=>((aA (bc ""))>>=eL)>>=λvs=>aA (v::vs))>>=λvs=>alloc (.tuple vs))>>=pe)
  (aA bp))
def jL:M Fl:=
 (seqM ((((bw "dress")>>=λa=>(aA (bD (8)))>>=λb=>cmpC c kU a b)>>=cP c)>>=λt=>if t=ao then (seqM ((((((aA [(bD (13187)),(bD (13189)),(bD (8451)),(bD (8517)),(bD (13188)),(bD (13190)),(bD (13184)),(bD (13169))])>>=λvs=>alloc (.list vs))>>=λov=>((bw "draw")>>=λa=>(aA (bD (8)))>>=λb=>binC c oM a b)>>=λiv=>d8 c ov iv)>>=eL)>>=λas=>dN c (zp "chr") as>>=ef)>>=λv=>(setM "sign" v>>=mw)>>=jH)
  (seqM ((((bw "sign")>>=λv=>(((((aA (bc "ma"))>>=λv=>((aA (bc "kb"))>>=λv=>(((((aA (bD (176)))>>=eL)>>=λas=>dN c (zp "chr") as>>=ef)>>=λa=>(aA (bc "c"))>>=λb=>binC c fL a b)>>=λv=>(aA [(bc "d"),(bc "ka"),(bc "mb"),(bc "pa"),(bc "hpa")])>>=λvs=>aA (v::vs))>>=λvs=>aA (v::vs))>>=λvs=>aA (v::vs))>>=λvs=>alloc (.list vs))>>=λov=>((bw "draw")>>=λa=>(aA (bD (8)))>>=λb=>binC c oM a b)>>=λiv=>d8 c ov iv)>>=eL)>>=λvs=>aA (v::vs))>>=λvs=>alloc (.tuple vs))>>=pe)
  (aA bp))) else (aA bp))
  (qA c))
def jM:M Fl:=
 (seqM ((((bw "dress")>>=λa=>(aA (bD (8)))>>=λb=>cmpC c CmpOp.Lt a b)>>=cP c)>>=λt=>if t=ao then (seqM ((((((((aA (bD (119808)))>>=λa=>((aA (bD (52)))>>=λa=>(((aA [(bD (0)),(bD (1)),(bD (2)),(bD (4)),(bD (7)),(bD (12))])>>=λvs=>alloc (.list vs))>>=λov=>((bw "dress")>>=λa=>(aA (bD (2)))>>=λb=>binC c yD a b)>>=λiv=>d8 c ov iv)>>=λb=>binC c Operator.Mult a b)>>=λb=>binC c fL a b)>>=λa=>(bw "place")>>=λb=>binC c fL a b)>>=eL)>>=λas=>dN c (zp "chr") as>>=ef)>>=λv=>((bw "letter")>>=eL)>>=λvs=>aA (v::vs))>>=λvs=>alloc (.tuple vs))>>=pe)
  (aA bp)) else (aA bp))
  (jL c))
def jN:M Fl:=
 (seqM ((((bw "dress")>>=λa=>(aA (bD (1)))>>=λb=>cmpC c kU a b)>>=cP c)>>=λt=>if t=ao then (seqM (((((((aA (bD (65)))>>=λa=>(bw "place")>>=λb=>binC c fL a b)>>=eL)>>=λas=>dN c (zp "chr") as>>=ef)>>=λv=>((bw "letter")>>=eL)>>=λvs=>aA (v::vs))>>=λvs=>alloc (.tuple vs))>>=pe)
  (aA bp)) else (aA bp))
  (jM c))
def jO:M Fl:=
 (seqM ((((bw "dress")>>=λa=>(aA (bD (0)))>>=λb=>cmpC c kU a b)>>=cP c)>>=λt=>if t=ao then (seqM ((((bw "letter")>>=λv=>((bw "letter")>>=eL)>>=λvs=>aA (v::vs))>>=λvs=>alloc (.tuple vs))>>=pe)
  (aA bp)) else (aA bp))
  (jN c))
def qB:M Fl:=
 (seqM (((bw "draw")>>=λa=>(aA (bD (8)))>>=λb=>binC c Operator.FloorDiv a b)>>=λv=>(setM "dress" v>>=mw)>>=jH)
  (jO c))
def qC:M Fl:=
 (seqM (((((bw "letter")>>=eL)>>=λas=>dN c (zp "ord") as>>=ef)>>=λa=>(aA (bD (97)))>>=λb=>binC c yD a b)>>=λv=>(setM "place" v>>=mw)>>=jH)
  (qB c))
def iT:M Fl:=
 (seqM (((aA (bc "abcdklpz"))>>=λov=>((bw "draw")>>=λa=>(aA (bD (8)))>>=λb=>binC c oM a b)>>=λiv=>d8 c ov iv)>>=λv=>(setM "letter" v>>=mw)>>=jH)
  (qC c))
theorem z0(v0:V)(os:List O)(z:List Nat):cN P aj (n+1) (.top 217) [v0] os z=nA (iT (cy P aj n) z ⟨[("draw",v0)],os⟩):=by kernel_rfl
def mY(uq:eB)(acc:Nat)(v:V):M Unit:=
 setM "sign" v>>=λ_=>((((((bw "sign")>>=eL)>>=λas=>dN c (qQ 159) as>>=ef)>>=λa=>(aA (BS bf))>>=λb=>cmpC c sE a b)>>=cP c)>>=λt=>if t=ao then (aA ao) else aA bf)>>=λt=>if t=ao then ((((bw "sign")>>=eL)>>=λas=>dN c (qQ 205) as>>=ef)>>=λv=>i4 c acc v) else aA ()
def mZ(uq:eB)(acc:Nat)(src:Src):M Unit:=
 dk src.fz (fu (λv=>mY c uq acc v) src.items)
def zJ:M Fl:=
 (seqM (((aA (bc ""))>>=λov=>ez c ov "join" >>=λm=>(((bw "text")>>=λit=>gN c it>>=λsrc=>fg (λfr=>fh []) (λuq i src=>mZ c uq i src) src)>>=eL)>>=λas=>eK c ov m as>>=ef)>>=pe)
  (aA bp))
theorem DM(v0:V)(os:List O)(z:List Nat):cN P aj (n+1) (.top 222) [v0] os z=nA (zJ (cy P aj n) z ⟨[("text",v0)],os⟩):=by kernel_rfl
def qD:M V:=
 (((aA (bc "ring"))>>=λv=>((((bw "error")>>=λov=>eE c ov "args")>>=λov=>(aA (bD (1)))>>=λiv=>d8 c ov iv)>>=eL)>>=λvs=>aA (v::vs))>>=λvs=>alloc (.tuple vs))
def js:M Fl:=
 (seqM ((bw "sorter")>>=λov=>ez c ov "prepare" >>=λm=>eK c ov m []>>=λr=>Aa c (setM "error") (aA (qQ 55)) (qD d) r)
  (aA bp))
theorem yX(v0:V)(os:List O)(z:List Nat):cN P aj (n+1) (.top 229) [v0] os z=nA (js (cy P aj n) (cx P aj (cN P aj n) bf) z ⟨[("sorter",v0)],os⟩):=by kernel_rfl
def ow(uq:eB)(acc:Nat)(v:V):M Unit:=
 setM "sign" v>>=λ_=>((((bw "sign")>>=λa=>(aA (bc "abcd"))>>=λb=>cmpC c ke a b)>>=cP c)>>=λt=>if t=ao then (aA ao) else aA bf)>>=λt=>if t=ao then ((bw "sign")>>=λv=>i4 c acc v) else aA ()
def td(uq:eB)(acc:Nat)(src:Src):M Unit:=
 dk src.fz (fu (λv=>ow c uq acc v) src.items)
def kn(v:V):M Fl:=
 setM "i" v>>=λ_=>(seqM (((bw "sorter")>>=λov=>ez c ov "add" >>=λm=>if m.isFn=ao then (((aA (bc "abcd"))>>=λov=>(bw "i")>>=λiv=>d8 c ov iv)>>=λv=>((((bw "texts")>>=λov=>(bw "i")>>=λiv=>d8 c ov iv)>>=λit=>gN c it>>=λsrc=>fg (λfr=>fh []) (λuq i src=>td c uq i src) src)>>=λv=>zC c v)>>=λvs=>aA (v::vs))>>=λas=>eK c ov m as>>=ef else ((fail:M Unit)>>=λ_=>(((aA (bc "abcd"))>>=λov=>(bw "i")>>=λiv=>d8 c ov iv)>>=λv=>((((bw "texts")>>=λov=>(bw "i")>>=λiv=>d8 c ov iv)>>=λit=>gN c it>>=λsrc=>fg (λfr=>fh []) (λuq i src=>td c uq i src) src)>>=λv=>zC c v)>>=λvs=>aA (v::vs))>>=λas=>eK c ov m as>>=ef))>>=jH)
  (aA bp))
def lN:M Bool:=
 (((bw "sorter")>>=λov=>ez c ov "is_active" >>=λm=>(aA [])>>=λas=>eK c ov m as>>=ef)>>=cP c)
def oy(uq:eB)(acc:Nat)(v:V):M Unit:=
 setM "sign" v>>=λ_=>(aA ao)>>=λt=>if t=ao then (((((bw "sign")>>=λa=>(aA (bc "abcd"))>>=λb=>cmpC c ke a b)>>=cP c)>>=λt=>if t=ao then ((lift (getF uq "values"))>>=λov=>(bw "sign")>>=λiv=>d8 c ov iv) else (bw "sign"))>>=λv=>i4 c acc v) else aA ()
def te(uq:eB)(acc:Nat)(src:Src):M Unit:=
 dk src.fz (fu (λv=>oy c uq acc v) src.items)
def ko(v:V):M Fl:=
 setM "name" v>>=λ_=>(seqM (((bw "texts")>>=λov=>((aA (bc "abcd"))>>=λov=>ez c ov "index" >>=λm=>((bw "name")>>=eL)>>=λas=>eK c ov m as>>=ef)>>=λiv=>d8 c ov iv)>>=λv=>(setM "text" v>>=mw)>>=jH)
  (seqM (((aA (bc ""))>>=λov=>ez c ov "join" >>=λm=>(((bw "text")>>=λit=>gN c it>>=λsrc=>fg (λfr=>fh [("values",getF fr "values")]) (λuq i src=>te c uq i src) src)>>=eL)>>=λas=>eK c ov m as>>=ef)>>=λv=>(((bw "values")>>=λov=>(bw "name")>>=λiv=>ny c ov iv v)>>=mw)>>=jH)
  (aA bp)))
def oz:M Fl:=
 (seqM (((bw "sorter")>>=λov=>ez c ov "get_ready" >>=λm=>(aA [])>>=λas=>eK c ov m as>>=ef)>>=λv=>(setM "group" v>>=mw)>>=jH)
  (seqM ((bw "group")>>=λv=>gN c v>>=λsrc=>dk src.fz (fU (λv=>ko c v) src.items))
  (seqM (((bw "groups")>>=λov=>ez c ov "append" >>=λm=>((((bw "group")>>=eL)>>=λas=>dN c (zp "sorted") as>>=ef)>>=eL)>>=λas=>eK c ov m as>>=ef)>>=jH)
  (seqM (((bw "sorter")>>=λov=>ez c ov "done" >>=λm=>if m.isFn=ao then ((bw "group")>>=λv=>zC c v)>>=λas=>eK c ov m as>>=ef else ((fail:M Unit)>>=λ_=>((bw "group")>>=λv=>zC c v)>>=λas=>eK c ov m as>>=ef))>>=jH)
  (aA bp)))))
def wg:M Fl:=
 (seqM ((((bw "ring")>>=λv=>((bw "prepared")>>=λv=>((bw "groups")>>=λv=>((bw "values")>>=eL)>>=λvs=>aA (v::vs))>>=λvs=>aA (v::vs))>>=λvs=>aA (v::vs))>>=λvs=>alloc (.tuple vs))>>=pe)
  (aA bp))
def wh:M Fl:=
 (seqM (hU (lN c) (oz c) (aA bp) 200)
  (wg))
def wi:M Fl:=
 (seqM ((alloc (.dict []))>>=λv=>(setM "values" v>>=mw)>>=jH)
  (wh c))
def wj:M Fl:=
 (seqM (((aA [])>>=λvs=>alloc (.list vs))>>=λv=>(setM "groups" v>>=mw)>>=jH)
  (wi c))
def wk:M Fl:=
 (seqM ((((bw "sorter")>>=eL)>>=λas=>dN c (qQ 229) as>>=ef)>>=λv=>(setM "prepared" v>>=mw)>>=jH)
  (wj c))
def wm:M Fl:=
 (seqM (((bw "sorter")>>=λov=>ez c ov "_find_cycle" >>=λm=>(aA [])>>=λas=>eK c ov m as>>=ef)>>=λv=>(setM "ring" v>>=mw)>>=jH)
  (wk c))
def wo:M Fl:=
 (seqM ((((aA (bD (4)))>>=eL)>>=λas=>dN c (pZ "range") as>>=ef)>>=λv=>gN c v>>=λsrc=>dk src.fz (fU (λv=>kn c v) src.items))
  (wm c))
def Ba:M Fl:=
 (seqM (((aA [])>>=λas=>dN c (qQ 137) as>>=ef)>>=λv=>(setM "sorter" v>>=mw)>>=jH)
  (wo c))
theorem Fv(v0:V)(os:List O)(z:List Nat):cN P aj (n+1) (.top 234) [v0] os z=nA (Ba (cy P aj n) z ⟨[("texts",v0)],os⟩):=by kernel_rfl
def kZ(uq:eB)(acc:Nat)(v:V):M Unit:=
 setM "sign" v>>=λ_=>(aA ao)>>=λt=>if t=ao then (((((bw "sign")>>=λa=>(aA (bc "abcd"))>>=λb=>cmpC c ke a b)>>=cP c)>>=λt=>if t=ao then ((lift (getF uq "texts"))>>=λov=>((aA (bc "abcd"))>>=λov=>ez c ov "index" >>=λm=>((bw "sign")>>=eL)>>=λas=>eK c ov m as>>=ef)>>=λiv=>d8 c ov iv) else (bw "sign"))>>=λv=>i4 c acc v) else aA ()
def nS(uq:eB)(acc:Nat)(src:Src):M Unit:=
 dk src.fz (fu (λv=>kZ c uq acc v) src.items)
def k8(uq:eB)(acc:Nat)(v:V):M Unit:=
 setM "sign" v>>=λ_=>((((bw "sign")>>=λa=>(aA (bc "abcd"))>>=λb=>cmpC c ke a b)>>=cP c)>>=λt=>if t=ao then (aA ao) else aA bf)>>=λt=>if t=ao then ((bw "sign")>>=λv=>i4 c acc v) else aA ()
def nT(uq:eB)(acc:Nat)(src:Src):M Unit:=
 dk src.fz (fu (λv=>k8 c uq acc v) src.items)
def fN(v:V):M Fl:=
 setM "times" v>>=λ_=>(seqM (((aA (bc ""))>>=λov=>ez c ov "join" >>=λm=>(((bw "text")>>=λit=>gN c it>>=λsrc=>fg (λfr=>fh [("texts",getF fr "texts")]) (λuq i src=>nS c uq i src) src)>>=eL)>>=λas=>eK c ov m as>>=ef)>>=λv=>(setM "text" v>>=mw)>>=jH)
  (seqM (((((bw "text")>>=λit=>gN c it>>=λsrc=>fg (λfr=>fh []) (λuq i src=>nT c uq i src) src)>>=λa=>((aA [])>>=λvs=>alloc (.list vs))>>=λb=>cmpC c kU a b)>>=cP c)>>=λt=>if t=ao then (seqM ((((bw "times")>>=λv=>((bw "text")>>=eL)>>=λvs=>aA (v::vs))>>=λvs=>alloc (.tuple vs))>>=pe)
  (aA bp)) else (aA bp))
  (aA bp)))
def qZ:M Fl:=
 (seqM ((bw "name")>>=λv=>(setM "text" v>>=mw)>>=jH)
  (seqM ((((aA (bD (4)))>>=eL)>>=λas=>dN c (pZ "range") as>>=ef)>>=λv=>gN c v>>=λsrc=>dk src.fz (fU (λv=>fN c v) src.items))
  (seqM ((((aA (bD (4)))>>=λv=>((aA (bc ""))>>=eL)>>=λvs=>aA (v::vs))>>=λvs=>alloc (.tuple vs))>>=pe)
  (aA bp))))
theorem Bb(v0 v1:V)(os:List O)(z:List Nat):cN P aj (n+1) (.top 239) [v0,v1] os z=nA (qZ (cy P aj n) z ⟨[("texts",v0),("name",v1)],os⟩):=by kernel_rfl
def m9(uq:eB)(acc:Nat)(v:V):M Unit:=
 setM "i" v>>=λ_=>((((lift (getF uq "name"))>>=λa=>((lift (getF uq "texts"))>>=λov=>(bw "i")>>=λiv=>d8 c ov iv)>>=λb=>cmpC c ke a b)>>=cP c)>>=λt=>if t=ao then (aA ao) else aA bf)>>=λt=>if t=ao then (((aA (bc "abcd"))>>=λov=>(bw "i")>>=λiv=>d8 c ov iv)>>=λv=>i4 c acc v) else aA ()
def q6(uq:eB)(acc:Nat)(src:Src):M Unit:=
 dk src.fz (fu (λv=>m9 c uq acc v) src.items)
def jD(v:V):M Fl:=
 setM "name" v>>=λ_=>(seqM (((((aA (bD (4)))>>=eL)>>=λas=>dN c (pZ "range") as>>=ef)>>=λit=>gN c it>>=λsrc=>fg (λfr=>fh [("name",getF fr "name"),("texts",getF fr "texts")]) (λuq i src=>q6 c uq i src) src)>>=λv=>(((bw "users")>>=λov=>(bw "name")>>=λiv=>ny c ov iv v)>>=mw)>>=jH)
  (aA bp))
def nc(uq:eB)(acc:Nat)(v:V):M Unit:=
 setM "user" v>>=λ_=>((((bw "user")>>=λa=>(lift (getF uq "live"))>>=λb=>cmpC c ke a b)>>=cP c)>>=λt=>if t=ao then (aA ao) else aA bf)>>=λt=>if t=ao then ((bw "user")>>=λv=>i4 c acc v) else aA ()
def wq(uq:eB)(acc:Nat)(src:Src):M Unit:=
 dk src.fz (fu (λv=>nc c uq acc v) src.items)
def nf(uq:eB)(acc:Nat)(v:V):M Unit:=
 setM "name" v>>=λ_=>((((((lift (getF uq "users"))>>=λov=>(bw "name")>>=λiv=>d8 c ov iv)>>=λit=>gN c it>>=λsrc=>fg (λfr=>fh [("live",getF uq "live")]) (λuq i src=>wq c uq i src) src)>>=λa=>((aA [])>>=λvs=>alloc (.list vs))>>=λb=>cmpC c vq a b)>>=cP c)>>=λt=>if t=ao then (aA ao) else aA bf)>>=λt=>if t=ao then ((bw "name")>>=λv=>i4 c acc v) else aA ()
def q9(uq:eB)(acc:Nat)(src:Src):M Unit:=
 dk src.fz (fu (λv=>nf c uq acc v) src.items)
def jE(v:V):M Fl:=
 setM "step" v>>=λ_=>(seqM (((aA (bc ""))>>=λov=>ez c ov "join" >>=λm=>(((bw "live")>>=λit=>gN c it>>=λsrc=>fg (λfr=>fh [("live",getF fr "live"),("users",getF fr "users")]) (λuq i src=>q9 c uq i src) src)>>=eL)>>=λas=>eK c ov m as>>=ef)>>=λv=>(setM "live" v>>=mw)>>=jH)
  (aA bp))
def ng(uq:eB)(acc:Nat)(v:V):M Unit:=
 setM "sign" v>>=λ_=>((((bw "sign")>>=λa=>(lift (getF uq "live"))>>=λb=>cmpC c ke a b)>>=cP c)>>=λt=>if t=ao then (aA ao) else aA bf)>>=λt=>if t=ao then ((bw "sign")>>=λv=>i4 c acc v) else aA ()
def uP(uq:eB)(acc:Nat)(src:Src):M Unit:=
 dk src.fz (fu (λv=>ng c uq acc v) src.items)
def iU(v:V):M Fl:=
 setM "i" v>>=λ_=>(seqM (((bw "named")>>=λov=>ez c ov "extend" >>=λm=>(((((aA (bc "abcd"))>>=λov=>(bw "i")>>=λiv=>d8 c ov iv)>>=λa=>((bw "texts")>>=λov=>(bw "i")>>=λiv=>d8 c ov iv)>>=λb=>binC c fL a b)>>=λit=>gN c it>>=λsrc=>fg (λfr=>fh [("live",getF fr "live")]) (λuq i src=>uP c uq i src) src)>>=eL)>>=λas=>eK c ov m as>>=ef)>>=jH)
  (aA bp))
def j6:M Bool:=
 ((((bw "way")>>=λov=>((aA (bD (1)))>>=GZ)>>=λiv=>d8 c ov iv)>>=λa=>((bw "way")>>=λov=>(aA fX)>>=λlv=>((aA (bD (1)))>>=GZ)>>=λuv=>(aA fX)>>=λsv=>lu c ov lv uv sv)>>=λb=>cmpC c CmpOp.NotIn a b)>>=cP c)
def lO(uq:eB)(acc:Nat)(v:V):M Unit:=
 setM "user" v>>=λ_=>((((bw "user")>>=λa=>(lift (getF uq "live"))>>=λb=>cmpC c ke a b)>>=cP c)>>=λt=>if t=ao then (aA ao) else aA bf)>>=λt=>if t=ao then ((bw "user")>>=λv=>i4 c acc v) else aA ()
def uQ(uq:eB)(acc:Nat)(src:Src):M Unit:=
 dk src.fz (fu (λv=>lO c uq acc v) src.items)
def lP:M Fl:=
 (seqM (((bw "way")>>=λov=>ez c ov "append" >>=λm=>(((((bw "users")>>=λov=>((bw "way")>>=λov=>((aA (bD (1)))>>=GZ)>>=λiv=>d8 c ov iv)>>=λiv=>d8 c ov iv)>>=λit=>gN c it>>=λsrc=>fg (λfr=>fh [("live",getF fr "live")]) (λuq i src=>uQ c uq i src) src)>>=λov=>(aA (bD (0)))>>=λiv=>d8 c ov iv)>>=eL)>>=λas=>eK c ov m as>>=ef)>>=jH)
  (aA bp))
def pA:M Fl:=
 (seqM (((bw "way")>>=λov=>((bw "way")>>=λov=>ez c ov "index" >>=λm=>(((bw "way")>>=λov=>((aA (bD (1)))>>=GZ)>>=λiv=>d8 c ov iv)>>=eL)>>=λas=>eK c ov m as>>=ef)>>=λlv=>(aA fX)>>=λuv=>(aA fX)>>=λsv=>lu c ov lv uv sv)>>=pe)
  (aA bp))
def uR:M Fl:=
 (seqM (hU (j6 c) (lP c) (aA bp) 200)
  (pA c))
def uS:M Fl:=
 (seqM (((((bw "named")>>=λov=>(aA (bD (0)))>>=λiv=>d8 c ov iv)>>=eL)>>=λvs=>alloc (.list vs))>>=λv=>(setM "way" v>>=mw)>>=jH)
  (uR c))
def uT:M Fl:=
 (seqM ((((aA (bD (4)))>>=eL)>>=λas=>dN c (pZ "range") as>>=ef)>>=λv=>gN c v>>=λsrc=>dk src.fz (fU (λv=>iU c v) src.items))
  (uS c))
def uU:M Fl:=
 (seqM (((aA [])>>=λvs=>alloc (.list vs))>>=λv=>(setM "named" v>>=mw)>>=jH)
  (uT c))
def pB:M Fl:=
 (seqM ((((bw "live")>>=λa=>(aA (bc ""))>>=λb=>cmpC c kU a b)>>=cP c)>>=λt=>if t=ao then (seqM ((aA fX)>>=pe)
  (aA bp)) else (aA bp))
  (uU c))
def pC:M Fl:=
 (seqM ((((aA (bD (4)))>>=eL)>>=λas=>dN c (pZ "range") as>>=ef)>>=λv=>gN c v>>=λsrc=>dk src.fz (fU (λv=>jE c v) src.items))
  (pB c))
def pD:M Fl:=
 (seqM ((aA (bc "abcd"))>>=λv=>(setM "live" v>>=mw)>>=jH)
  (pC c))
def pE:M Fl:=
 (seqM ((aA (bc "abcd"))>>=λv=>gN c v>>=λsrc=>dk src.fz (fU (λv=>jD c v) src.items))
  (pD c))
def uV:M Fl:=
 (seqM ((alloc (.dict []))>>=λv=>(setM "users" v>>=mw)>>=jH)
  (pE c))
theorem DN(v0:V)(os:List O)(z:List Nat):cN P aj (n+1) (.top 244) [v0] os z=nA (uV (cy P aj n) z ⟨[("texts",v0)],os⟩):=by kernel_rfl
def tf(uq:eB)(acc:Nat)(v:V):M Unit:=
 setM "name" v>>=λ_=>(aA ao)>>=λt=>if t=ao then ((((lift (getF uq "texts"))>>=λv=>((bw "name")>>=eL)>>=λvs=>aA (v::vs))>>=λas=>dN c (qQ 239) as>>=ef)>>=λv=>i4 c acc v) else aA ()
def xT(uq:eB)(acc:Nat)(src:Src):M Unit:=
 dk src.fz (fu (λv=>tf c uq acc v) src.items)
def oA(uq:eB)(acc:Nat)(v:V):M Unit:=
 setM "i" v>>=λ_=>((((((lift (getF uq "opened"))>>=λov=>(bw "i")>>=λiv=>d8 c ov iv)>>=λov=>(aA (bD (0)))>>=λiv=>d8 c ov iv)>>=λa=>(lift (getF uq "times"))>>=λb=>cmpC c kU a b)>>=cP c)>>=λt=>if t=ao then (aA ao) else aA bf)>>=λt=>if t=ao then (((aA (bc "abcd"))>>=λov=>(bw "i")>>=λiv=>d8 c ov iv)>>=λv=>i4 c acc v) else aA ()
def tg(uq:eB)(acc:Nat)(src:Src):M Unit:=
 dk src.fz (fu (λv=>oA c uq acc v) src.items)
def kp(v:V):M Fl:=
 setM "name" v>>=λ_=>(seqM ((((bw "opened")>>=λov=>((aA (bc "abcd"))>>=λov=>ez c ov "index" >>=λm=>((bw "name")>>=eL)>>=λas=>eK c ov m as>>=ef)>>=λiv=>d8 c ov iv)>>=λov=>(aA (bD (1)))>>=λiv=>d8 c ov iv)>>=λv=>(((bw "values")>>=λov=>(bw "name")>>=λiv=>ny c ov iv v)>>=mw)>>=jH)
  (aA bp))
def jb(v:V):M Fl:=
 setM "times" v>>=λ_=>(seqM (((((aA (bD (4)))>>=eL)>>=λas=>dN c (pZ "range") as>>=ef)>>=λit=>gN c it>>=λsrc=>fg (λfr=>fh [("opened",getF fr "opened"),("times",getF fr "times")]) (λuq i src=>tg c uq i src) src)>>=λv=>(setM "group" v>>=mw)>>=jH)
  (seqM ((((bw "group")>>=λa=>((aA [])>>=λvs=>alloc (.list vs))>>=λb=>cmpC c vq a b)>>=cP c)>>=λt=>if t=ao then (seqM (((bw "groups")>>=λov=>ez c ov "append" >>=λm=>((bw "group")>>=eL)>>=λas=>eK c ov m as>>=ef)>>=jH)
  (aA bp)) else (aA bp))
  (seqM ((bw "group")>>=λv=>gN c v>>=λsrc=>dk src.fz (fU (λv=>kp c v) src.items))
  (aA bp))))
def rf:M Fl:=
 (seqM ((((bw "ring")>>=λv=>(((((bw "ring")>>=λa=>(aA fX)>>=λb=>cmpC c sE a b)>>=cP c)>>=λt=>if t=ao then (aA fX) else (((aA (bc "ring"))>>=λv=>((bw "ring")>>=eL)>>=λvs=>aA (v::vs))>>=λvs=>alloc (.tuple vs)))>>=λv=>((bw "groups")>>=λv=>((bw "values")>>=eL)>>=λvs=>aA (v::vs))>>=λvs=>aA (v::vs))>>=λvs=>aA (v::vs))>>=λvs=>alloc (.tuple vs))>>=pe)
  (aA bp))
def rh:M Fl:=
 (seqM ((((aA (bD (4)))>>=eL)>>=λas=>dN c (pZ "range") as>>=ef)>>=λv=>gN c v>>=λsrc=>dk src.fz (fU (λv=>jb c v) src.items))
  (rf c))
def rj:M Fl:=
 (seqM ((alloc (.dict []))>>=λv=>(setM "values" v>>=mw)>>=jH)
  (rh c))
def rn:M Fl:=
 (seqM (((aA [])>>=λvs=>alloc (.list vs))>>=λv=>(setM "groups" v>>=mw)>>=jH)
  (rj c))
def ro:M Fl:=
 (seqM (((aA (bc "abcd"))>>=λit=>gN c it>>=λsrc=>fg (λfr=>fh [("texts",getF fr "texts")]) (λuq i src=>xT c uq i src) src)>>=λv=>(setM "opened" v>>=mw)>>=jH)
  (rn c))
def wU:M Fl:=
 (seqM ((((bw "texts")>>=eL)>>=λas=>dN c (qQ 244) as>>=ef)>>=λv=>(setM "ring" v>>=mw)>>=jH)
  (ro c))
theorem Fw(v0:V)(os:List O)(z:List Nat):cN P aj (n+1) (.top 249) [v0] os z=nA (wU (cy P aj n) z ⟨[("texts",v0)],os⟩):=by kernel_rfl
def DO(uq:eB)(acc:Nat)(v:V):M Unit:=
 setM "draw" v>>=λ_=>(aA ao)>>=λt=>if t=ao then ((((bw "draw")>>=eL)>>=λas=>dN c (qQ 217) as>>=ef)>>=λv=>i4 c acc v) else aA ()
def Ja(uq:eB)(acc:Nat)(src:Src):M Unit:=
 dk src.fz (fu (λv=>DO c uq acc v) src.items)
def DP(uq:eB)(acc:Nat)(v:V):M Unit:=
 DL c ["sign","word"] v>>=λ_=>(aA ao)>>=λt=>if t=ao then ((bw "word")>>=λv=>i4 c acc v) else aA ()
def DQ(uq:eB)(acc:Nat)(src:Src):M Unit:=
 dk src.fz (fu (λv=>DP c uq acc v) src.items)
def DR(uq:eB)(acc:Nat)(v:V):M Unit:=
 setM "i" v>>=λ_=>(aA ao)>>=λt=>if t=ao then (((aA (bc ""))>>=λov=>ez c ov "join" >>=λm=>((((lift (getF uq "written"))>>=λov=>(bw "i")>>=λlv=>((bw "i")>>=λa=>(aA (bD (3)))>>=λb=>binC c fL a b)>>=λuv=>(aA fX)>>=λsv=>lu c ov lv uv sv)>>=λit=>gN c it>>=λsrc=>fg (λfr=>fh []) (λuq i src=>DQ c uq i src) src)>>=eL)>>=λas=>eK c ov m as>>=ef)>>=λv=>i4 c acc v) else aA ()
def DT(uq:eB)(acc:Nat)(src:Src):M Unit:=
 dk src.fz (fu (λv=>DR c uq acc v) src.items)
def DU(uq:eB)(acc:Nat)(v:V):M Unit:=
 DL c ["sign","word"] v>>=λ_=>(aA ao)>>=λt=>if t=ao then ((bw "sign")>>=λv=>i4 c acc v) else aA ()
def DV(uq:eB)(acc:Nat)(src:Src):M Unit:=
 dk src.fz (fu (λv=>DU c uq acc v) src.items)
def DW(uq:eB)(acc:Nat)(v:V):M Unit:=
 setM "i" v>>=λ_=>(aA ao)>>=λt=>if t=ao then (((((aA (bc ""))>>=λov=>ez c ov "join" >>=λm=>((((lift (getF uq "written"))>>=λov=>(bw "i")>>=λlv=>((bw "i")>>=λa=>(aA (bD (3)))>>=λb=>binC c fL a b)>>=λuv=>(aA fX)>>=λsv=>lu c ov lv uv sv)>>=λit=>gN c it>>=λsrc=>fg (λfr=>fh []) (λuq i src=>DV c uq i src) src)>>=eL)>>=λas=>eK c ov m as>>=ef)>>=eL)>>=λas=>dN c (qQ 222) as>>=ef)>>=λv=>i4 c acc v) else aA ()
def Bc(uq:eB)(acc:Nat)(src:Src):M Unit:=
 dk src.fz (fu (λv=>DW c uq acc v) src.items)
def Fx:M Fl:=
 (seqM (((((bw "told")>>=eL)>>=λas=>dN c (qQ 234) as>>=ef)>>=λa=>(((bw "texts")>>=eL)>>=λas=>dN c (qQ 249) as>>=ef)>>=λb=>cmpC c kU a b)>>=pe)
  (aA bp))
def Fy:M Fl:=
 (seqM ((((bw "told")>>=λa=>(bw "texts")>>=λb=>cmpC c vq a b)>>=cP c)>>=λt=>if t=ao then (seqM ((aA (BS bf))>>=pe)
  (aA bp)) else (aA bp))
  (Fx c))
def Fz:M Fl:=
 (seqM (((((aA (bD (0)))>>=λv=>((aA (bD (12)))>>=λv=>((aA (bD (3)))>>=eL)>>=λvs=>aA (v::vs))>>=λvs=>aA (v::vs))>>=λas=>dN c (pZ "range") as>>=ef)>>=λit=>gN c it>>=λsrc=>fg (λfr=>fh [("written",getF fr "written")]) (λuq i src=>Bc c uq i src) src)>>=λv=>(setM "told" v>>=mw)>>=jH)
  (Fy c))
def FD:M Fl:=
 (seqM (((((aA (bD (0)))>>=λv=>((aA (bD (12)))>>=λv=>((aA (bD (3)))>>=eL)>>=λvs=>aA (v::vs))>>=λvs=>aA (v::vs))>>=λas=>dN c (pZ "range") as>>=ef)>>=λit=>gN c it>>=λsrc=>fg (λfr=>fh [("written",getF fr "written")]) (λuq i src=>DT c uq i src) src)>>=λv=>(setM "texts" v>>=mw)>>=jH)
  (Fz c))
def FE:M Fl:=
 (seqM (((bw "draws")>>=λit=>gN c it>>=λsrc=>fg (λfr=>fh []) (λuq i src=>Ja c uq i src) src)>>=λv=>(setM "written" v>>=mw)>>=jH)
  (FD c))
def R1:M Fl:=
 (seqM ((((bw "script")>>=eL)>>=λas=>dN c (qQ 210) as>>=ef)>>=λv=>(setM "draws" v>>=mw)>>=jH)
  (FE c))
theorem T8(v0:V)(os:List O)(z:List Nat):cN P aj (n+1) (.top 254) [v0] os z=nA (R1 (cy P aj n) z ⟨[("script",v0)],os⟩):=by kernel_rfl
end
variable{cQ:zI}
theorem zK(m:M α)(f:α->M β)(z:List Nat)(s:eP):(m>>=f) z s=match m z s with
 |some (a,s')=>f a z s'
 |none=>ae:=rfl
theorem mpure(a:α)(z:List Nat)(s:eP):(aA a:M α) z s=af (a,s):=rfl
theorem yY(x:Str)(z:List Nat)(fr:eB)(os:List O):bw x z ⟨fr,os⟩=(getF fr x).map λv=>(v,⟨fr,os⟩):=rfl
theorem Cj(x:Str)(v:V)(z:List Nat)(fr:eB)(os:List O):setM x v z ⟨fr,os⟩=af ((),⟨putF fr x v,os⟩):=rfl
theorem uW(o:Option α)(z:List Nat)(s:eP):lift o z s=o.map λa=>(a,s):=rfl
theorem fj{o:Option α}{a:α}(h:o=af a)(z:List Nat)(s:eP):lift o z s=af (a,s):=by subst h;rfl
theorem Bd[Decidable p]{a b:M α}(h:p)(z:List Nat)(s:eP):(if p then a else b) z s=a z s:=by rw [if_pos h]
theorem dQ{o:O}(h:sizeOk o=ao)(z:List Nat)(fr:eB)(os:List O):alloc o z ⟨fr,os⟩=af (.ref os.length,⟨fr,os++ [o]⟩):=by
 dsimp only [alloc];exact (if_pos h)
theorem eC{o:O}(h:os[i]? =af o)(z:List Nat)(fr:eB):eu c (.ref i) z ⟨fr,os⟩=af (o,⟨fr,os⟩):=by
 show (os[i]?).map _=_;refine h▸ ?_;rfl
theorem Qk{o:O}(h:c.aj.lookup a=af o)(z:List Nat)(s:eP):eu c (.top a) z s=af (o,s):=by
 show (c.aj.lookup a).map _=_;refine h▸ ?_;rfl
theorem lQ{o o':O}(h:os[i]? =af o')(hs:sizeOk o=ao)(hz:i∉z)(fr:eB):gZ i o z ⟨fr,os⟩=af ((),⟨fr,os.set i o⟩):=by
 have hi:i<os.length:=(cS.mp h).1;unfold gZ;exact (if_pos ⟨hi,hs,hz⟩)
theorem c8{a b:String}:(ah a=ah b)↔a=b:=by
 constructor
 ·intro h;rw [tN,tN] at h;have h1:(a.toList.map xh).toArray=(b.toList.map xh).toArray:=congrArg Str.cps h;have h2:a.toList.map xh=b.toList.map xh:=by simpa using h1
  have h3:a.toList=b.toList:=List.map_inj_right (λx y hxy=>Char.toNat_inj.mp hxy) |>.mp h2
  exact String.toList_inj.mp h3
 ·rintro rfl;rfl
section
variable(P:eR)(aj:List (bk × O))(cQ:zI)
theorem k40:tT (Kw P) 40=ao:=by kernel_rfl
theorem T9:sT (Kw P) 40 "node" =af (41,0)/\qK (Kw P) 40 "node" =af (af (.ref 41)):=⟨by kernel_rfl,by kernel_rfl⟩
theorem FF:sT (Kw P) 40 "npredecessors" =af (42,1)/\qK (Kw P) 40 "npredecessors" =af (af (.ref 42)):=⟨by kernel_rfl,by kernel_rfl⟩
theorem M0:sT (Kw P) 40 "successors" =af (43,2)/\qK (Kw P) 40 "successors" =af (af (.ref 43)):=⟨by kernel_rfl,by kernel_rfl⟩
theorem Ql:tT (Kw P) 137=ao/\(clsIn (Kw P) 137).any (·.hasDict)=ao:=⟨by kernel_rfl,by kernel_rfl⟩
noncomputable def xU:List Str:=[ah "_node2info",ah "_ready_nodes",ah "_npassedout",ah "_nfinished"]
theorem R2:∀a∈xU,j9 (Kw P) (.ref 137) a=af ae/\qK (Kw P) 137 a=af ae:=by
 intro a ha;simp only [xU,aZ,de,or_false] at ha;rcases ha with rfl|rfl|rfl|rfl<;>exact ⟨by kernel_rfl,by kernel_rfl⟩
def tW(P:eR)(name:Str)(f:bk):Bool:=j9 (Kw P) (.ref 137) name==af (af (.ref f))&&(tT (Kw P) 137&&(BN (Kw P) (.ref f)==af (.type "function")&&(hasDictIn (Kw P) 137&&(r9 (Kw P) (.ref f) "__get__" ==af (af (.builtin "function.__get__"))&&(yr (Kw P) (.ref f)==af bf&&(!copiedNames.contains name&&fnIn (Kw P) f))))))&&ka (Kw P) (.ref f)
theorem DX:tW P "_get_nodeinfo" 80=ao:=by kernel_rfl
theorem M1:tW P "add" 87=ao:=by kernel_rfl
theorem Be:tW P "prepare" 92=ao:=by kernel_rfl
theorem FI:tW P "get_ready" 99=ao:=by kernel_rfl
theorem CV:tW P "is_active" 106=ao:=by kernel_rfl
theorem Jb:tW P "done" 120=ao:=by kernel_rfl
theorem xV:tW P "_find_cycle" 127=ao:=by kernel_rfl
end
section
variable{P:eR}{aj:List (bk × O)}{cQ:zI}
theorem Ai{a:Str}(h1:os[i]? =af (.inst 137 d))(h2:os[d]? =af (.ns es))(ha:a∈xU)(hv:lookE es a=af v)(hb:EO v=ao):eE (cx P aj cQ hd) (.ref i) a z ⟨fr,os⟩=af (v,⟨fr,os⟩):=by
 refine (ba (eC h1 z fr)).trans ((ba (eC h2 z fr)).trans ?_);have hc:(tT (Kw P) 137&&(clsIn (Kw P) 137).any (·.hasDict)&&j9 (Kw P) (.ref 137) a==af ae)=ao:=by
  rw [(Ql P).1,(Ql P).2,(R2 P a ha).1];rfl
 exact (ba (fj ((if_pos hc).trans hv) z _)).trans (Bd hb z _)
theorem th{a:Str}(h1:os[i]? =af (.inst 137 d))(h2:os[d]? =af (.ns es))(ha:a∈xU)(hz:d∉z)(hs:(jY es a v).length<=1000):ec (cx P aj cQ hd) (.ref i) a v z ⟨fr,os⟩=af ((),⟨fr,os.set d (.ns (jY es a v))⟩):=by
 refine (ba (eC h1 z fr)).trans ((ba (eC h2 z fr)).trans ?_);have hc:(tT (Kw P) 137&&(clsIn (Kw P) 137).any (·.hasDict)&&qK (Kw P) 137 a==af ae)=ao:=by
  rw [(Ql P).1,(Ql P).2,(R2 P a ha).2];rfl
 exact (Bd hc z _).trans (lQ (o:=.ns (jY es a v)) h2 (decide_eq_true hs) hz fr)
theorem vG{p:Nat}{vs:List (Option V)}{a:Str}(h1:os[i]? =af (.slots 40 d vs))(h2:os[d]? =af (.ns es))(ha:sT (Kw P) 40 a=af (p,k))(hv:vs[k]? =af (af v))(hb:EO v=ao):eE (cx P aj cQ hd) (.ref i) a z ⟨fr,os⟩=af (v,⟨fr,os⟩):=by
 refine (ba (eC h1 z fr)).trans ((ba (eC h2 z fr)).trans ?_);exact (ba (fj (a:=(p,k)) ((if_pos (k40 P)).trans ha) z _)).trans ((ba (fj (a:=v) (congrArg Option.join hv) z _)).trans (Bd hb z _))
theorem wV{p:Nat}{vs:List (Option V)}{a:Str}(h1:os[i]? =af (.slots 40 d vs))(h2:os[d]? =af (.ns es))(ha:sT (Kw P) 40 a=af (p,k))(ht:qK (Kw P) 40 a=af (af (.ref p)))(hk:k<vs.length)(hk':k<1000)(hz:i∉z):
  ec (cx P aj cQ hd) (.ref i) a v z ⟨fr,os⟩=af ((),⟨fr,os.set i (.slots 40 d (vs.set k (af v)))⟩):=by
 refine (ba (eC h1 z fr)).trans ((ba (eC h2 z fr)).trans ?_);exact (ba (fj (a:=(p,k)) ((if_pos (k40 P)).trans ha) z _)).trans ((Bd ⟨hk,hk',ht⟩ z _).trans (lQ h1 rfl hz fr))
theorem Qm{f:bk}(h1:os[i]? =af (.inst 137 d))(h2:os[d]? =af (.ns es))(hk:tW P name f=ao)(hn:lookE es name=ae):ez (cx P aj cQ hd) (.ref i) name z ⟨fr,os⟩=af (.fn f,⟨fr,os⟩):=by
 refine (ba (eC h1 z fr)).trans ((ba (eC h2 z fr)).trans ?_);unfold tW at hk;rw [aS,aS,beq_iff_eq] at hk;obtain ⟨⟨hf,hc⟩,_⟩:=hk;have hc':wJ (Kw P) 137 es name f=ao:=by
  rw [aS,aS] at hc;unfold wJ;rw [hc.1,hc.2.1,hn,hc.2.2];rfl
 have hm:GX (Kw P) 137 es name=af f:=by
  unfold GX;rw [hf];exact if_pos hc'
 exact ba (fj hm z _)
theorem gW{f:bk}(hk:ka (Kw P) (.ref f)=ao):dN (cx P aj cQ ao) (.top f) as z ⟨fr,os⟩=(cQ (.top f) as os z).map λ(r,os')=>(r,⟨fr,os'⟩):=by
 exact Bd (show (ao&&ka (Kw P) (.ref f))=ao by rw [hk];rfl) z _
theorem jc{f:bk}(hk:tW P name f=ao):ka (Kw P) (.ref f)=ao:=by
 unfold tW at hk;rw [aS] at hk;exact hk.2
end
section
variable{s s':eP}
theorem bq{m:M α}{f:α->M β}{a:α}{r:Option (β × eP)}(h:m z s=af (a,s'))(k:f a z s'=r):(m>>=f) z s=r:=by
 rw [zK,h];exact k
theorem br{a:α}:(aA a:M α) z s=af (a,s):=rfl
theorem bG(h:getF fr x=af v):bw x z ⟨fr,os⟩=af (v,⟨fr,os⟩):=by
 rw [yY,h];rfl
theorem bO(h:putF fr x v=et):setM x v z ⟨fr,os⟩=af ((),⟨et,os⟩):=by
 subst h;rfl
theorem bW{c:Prop}[Decidable c]{a b:M α}{r:Option (α × eP)}(hc:c)(h:a z s=r):(if c then a else b) z s=r:=by
 rw [if_pos hc];exact h
theorem ite_no{c:Prop}[Decidable c]{a b:M α}{r:Option (α × eP)}(hc:¬c)(h:b z s=r):(if c then a else b) z s=r:=by
 rw [if_neg hc];exact h
theorem HK{a b:String}(h:a≠b):ah a≠ah b:=λe=>h (c8.mp e)
theorem bb{u:V}{r:eB}:getF ((x,u)::r) x=af u:=if_pos rfl
theorem bh{x y:String}{u:V}{w:Option V}{r:eB}(h:y≠x)(k:getF r (ah x)=w):getF ((ah y,u)::r) (ah x)=w:=(if_neg (HK h)).trans k
theorem oB{u:V}{r:eB}:putF ((x,u)::r) x v=(x,v)::r:=if_pos rfl
theorem fe:putF [] x v= [(x,v)]:=rfl
theorem fP{x y:String}{u:V}{r r':eB}(h:y≠x)(k:putF r (ah x) v=r'):putF ((ah y,u)::r) (ah x) v=(ah y,u)::r':=by
 subst k;exact if_neg (HK h)
def FJ(b:M Fl):Fl->M Fl
 | .next=>b
 |f=>aA f
theorem bt{a b:M Fl}{x:Fl}{r:Option (Fl × eP)}(h:a z s=af (x,s'))(k:FJ b x z s'=r):seqM a b z s=r:=by
 unfold seqM;rw [zK,h];subst k;cases x<;>rfl
theorem aO{b:M Fl}{r:Option (Fl × eP)}(k:b z s=r):FJ b .next z s=r:=k
theorem bA{b:M Fl}:FJ b (.ret v) z s=af (.ret v,s):=rfl
theorem M3{b:M Fl}:FJ b (.exc i) z s=af (.exc i,s):=rfl
theorem Bf{b:M Fl}:FJ b .brk z s=af (.brk,s):=rfl
theorem KP{b:M Fl}:FJ b .cont z s=af (.cont,s):=rfl
theorem gE{X:Option (CR × eP)}{o:Option (CR × List O)}{x:CR}(e:X=o.map λp=>(p.1,⟨fr,p.2⟩))(h:o=af (x,os')):X=af (x,⟨fr,os'⟩):=by
 subst h;exact e
theorem b8{X:Option (CR × eP)}{o:Option (V × eP)}{x:V}(e:X=o.map λp=>(.ret p.1,p.2))(h:o=af (x,s')):X=af (.ret x,s'):=by
 subst h;exact e
theorem uX{b:M Fl}{w:V}(h:v=w)(hs:s=s'):FJ b (.ret v) z s=af (.ret w,s'):=by
 subst h;subst hs;rfl
theorem CW{b:M Fl}{w:V}(h:v=w)(ho:os=os'):FJ b (.ret v) z ⟨fr,os⟩=af (.ret w,⟨fr,os'⟩):=by
 subst h;subst ho;rfl
theorem nt{b:Bool}(h:b=bf):¬b=ao:=by rw [h];exact bj
theorem iL{o:Option α}{a:α}(h:o=af a):lift o z s=af (a,s):=by
 subst h;rfl
theorem kH{a b:V}{q:Bool}(h:EL os a b=af q):cmpC c .Eq a b z ⟨fr,os⟩=af (.bool q,⟨fr,os⟩):=by
 show (EN os a b).map _=_;unfold EN;rw [h];rfl
theorem Qn{a b:V}{q:Bool}(h0:EL os a b=ae)(h:z7 os a b=af q):cmpC c .Eq a b z ⟨fr,os⟩=af (.bool q,⟨fr,os⟩):=by
 show (EN os a b).map _=_;unfold EN;rw [h0,h];rfl
theorem yZ{a b:V}{q:Bool}(h:EL os a b=af q):cmpC c .NotEq a b z ⟨fr,os⟩=af (.bool (!q),⟨fr,os⟩):=by
 show (EL os a b).map _=_;rw [h];rfl
theorem uY{a b:V}{q:Bool}(h:Pg c a b z s=af (q,s')):cmpC c .In a b z s=af (.bool q,s'):=by
 show (Pg c a b>>=λr=>aA (BS r)) z s=_;rw [zK,h];rfl
theorem pF{a b:V}{q:Bool}(h:isV a b=af q):cmpC c .Is a b z s=af (.bool q,s):=by
 show ((isV a b).map BS).map _=_;rw [h];rfl
theorem rQ{a b:V}{q:Bool}(h:isV a b=af q):cmpC c .IsNot a b z s=af (.bool (!q),s):=by
 show ((isV a b).map _).map _=_;rw [h];rfl
theorem DY{a b:Int}:cmpC c .Lt (.int a) (.int b) z s=af (.bool (a<b),s):=rfl
theorem DZ{a b:Int}:ES .Add (.int a) (.int b) z s=af (.int (a+b),s):=rfl
theorem Jc{a b:Int}:ES .Sub (.int a) (.int b) z s=af (.int (a-b),s):=rfl
theorem aI{b:Bool}:cP c (.bool b) z s=af (b,s):=rfl
theorem Bg:cP c .none z s=af (bf,s):=rfl
theorem gz{X:Option (Fl × eP)}(h:X=af (.ret v,⟨fr,os⟩)):nA X=af (.ret v,os):=by
 subst h;rfl
theorem KQ{src:Src}{u:eB}(ha:alloc (.list []) z ⟨fr,os⟩=af (.ref i,⟨fr,os++ [.list []]⟩))(hu:ups fr=u)(h:body u i src z ⟨[],os++ [.list []]⟩=af ((),⟨et,os'⟩)):fg ups body src z ⟨fr,os⟩=af (.ref i,⟨fr,os'⟩):=by
 subst hu;refine (ba ha).trans ?_;show (body (ups fr) i src z ⟨[],os++ [.list []]⟩).map _=_;rw [h];rfl
theorem xW{src:Src}(hl:os.length=i)(h:body (ups fr) i src z ⟨[],os++ [.list []]⟩=af ((),⟨et,os'⟩)):fg ups body src z ⟨fr,os⟩=af (.ref i,⟨fr,os'⟩):=KQ (hl▸dQ rfl z fr os) rfl h
theorem KS{C:bk}(h:sizeOk (.tuple as)=ao):G5 C as z ⟨fr,os⟩=af (.exc (os.length+1),⟨fr,os++ [.tuple as]++ [.exc C os.length]⟩):=by
 refine (ba (dQ h z fr os)).trans ((ba (dQ (o:=.exc C os.length) rfl z fr _)).trans ?_);rw [aq];rfl
theorem HL{set:V->M Unit}{en:M V}{C:bk}{t:Nat}(o:os[i]? =af (.exc C t))(hC:C∈c.ie)(h1:set (.ref i) z ⟨fr,os⟩=af ((),s))(h2:en z s=af (v,s')):Aa c set (aA (.top C)) en (.exc i) z ⟨fr,os⟩=af (.ret v,⟨[],s'.os⟩):=
 (ba (eC o z fr)).trans ((Bd (a:=set (.ref i)>>=λ_=>en>>=λv=>λ_ s=>af (Fl.ret v,{s with fr:=[]})) (b:=fail) (p:=C=C/\C∈c.ie) ⟨rfl,hC⟩ z _).trans ((ba h1).trans (ba h2)))
theorem Bh{i:Int}:GZ (.int i) z s=af (.int (-i),s):=rfl
theorem Qo{set:V->M Unit}{rest hb:M Fl}{q it l:Nat}{r:Option (Fl × eP)}(o1:os[q]? =af (.next it))(o2:os[it]? =af (.kP l k))(o3:os[l]? =af (.list xs))(hv:xs[k]? =af v)
  (h:(gZ it (.kP l (k+1))>>=λ_=>set v>>=λ_=>rest>>=AE:M Fl) z ⟨fr,os⟩=r):uE c set rest hb (.ref q) z ⟨fr,os⟩=r:=by
 refine (ba (eC o1 z fr)).trans ((ba (eC o2 z fr)).trans ((ba (eC o3 z fr)).trans ?_));show wb xs[k]? _ _ z _=r;rw [hv];exact h
theorem Qp{set:V->M Unit}{rest hb:M Fl}{q it l:Nat}{r:Option (Fl × eP)}(o1:os[q]? =af (.next it))(o2:os[it]? =af (.kP l k))(o3:os[l]? =af (.list xs))(hv:xs[k]? =ae)
  (h:(gZ it .dead>>=λ_=>hb>>=AE:M Fl) z ⟨fr,os⟩=r):uE c set rest hb (.ref q) z ⟨fr,os⟩=r:=by
 refine (ba (eC o1 z fr)).trans ((ba (eC o2 z fr)).trans ((ba (eC o3 z fr)).trans ?_));show wb xs[k]? _ _ z _=r;rw [hv];exact h
theorem aE:getF (putF fr x v) x=af v:=(b6 fr x x v).trans (if_pos rfl)
theorem av{x y:String}{w:Option V}(h:y≠x)(k:getF fr (ah y)=w):getF (putF fr (ah x) v) (ah y)=w:=(b6 fr _ _ v).trans ((if_neg (HK h)).trans k)
end
theorem wW{os l:List O}(k:Nat):(os++l)[os.length+k]? =l[k]? :=by
 refine (bT (aF _ _)).trans ?_;congr 1;exact dO _ _
theorem cL{os l:List O}:(os++l)[os.length]? =l[0]? :=wW 0
theorem Jd{os l:List O}(k:Nat)(x:O):(os++l).set (os.length+k) x=os++l.set k x:=by
 refine (ui _ _ (aF _ _)).trans ?_;congr 2;exact dO _ _
theorem M4{os l:List O}(x:O):(os++l).set os.length x=os++l.set 0 x:=Jd 0 x
section
variable(P:eR)(aj:List (bk × O))(n:Nat)(os:List O)(z:List Nat)
theorem Qq:cN P aj (n+1) (.top 137) [] os z=(nA (qY (cy P aj n) z ⟨[("self",.ref (os.length+1)),("graph",.none)],os++ [.ns [],.inst 137 os.length]⟩)).bind (λr=>if Ac r.1 then af (.ret (.ref (os.length+1)),r.2) else ae):=by kernel_rfl
theorem Ua(v:V):cN P aj (n+1) (.top 40) [v] os z=(nA (j0 (cy P aj n) z ⟨[("self",.ref (os.length+1)),("node",v)],os++ [.ns [],.slots 40 os.length (gw 5 ae)]⟩)).bind (λr=>if Ac r.1 then af (.ret (.ref (os.length+1)),r.2) else ae):=by kernel_rfl
end
section
variable{P:eR}{aj:List (bk × O)}{z:List Nat}{os:List O}
noncomputable def uZ(hV:Nat)(rd:V)(po fi:Int):List (Str × V):=[(ah "_node2info",.ref hV),(ah "_ready_nodes",rd),(ah "_npassedout",.int po),(ah "_nfinished",.int fi)]
theorem M5(hz:∀j∈z,j<os.length):qY (cx P aj cQ ao) z ⟨[("self",.ref (os.length+1)),("graph",.none)],os++ [.ns [],.inst 137 os.length]⟩=af (.next,⟨[("self",.ref (os.length+1)),("graph",.none)],os++ [.ns (uZ (os.length+2) .none 0 0),.inst 137 os.length,.dict []]⟩):=by
 have nz:os.length∉z:=λh=>aX _ (hz _ h);have step:∀(fr:eB) (es:List (Str × V)) (l:List O) (a:Str) (v:V),a∈xU->(jY es a v).length<=1000->ec (cx P aj cQ ao) (.ref (os.length+1)) a v z ⟨fr,os++ .ns es:: .inst 137 os.length::l⟩=af ((),⟨fr,os++ .ns (jY es a v):: .inst 137 os.length::l⟩):=λfr es l a v ha hs=>by
  rw [th (d:=os.length) (es:=es) (wW 1) cL ha nz hs,M4];rfl
 have p1:∀v,jY [] "_node2info" v= [(ah "_node2info",v)]:=λv=>rfl;have s1:=λfr=>step fr [] [.dict []] "_node2info" (.ref (os.length+2)) (by exact fm) (by exact lR _);have s2:=λfr=>step fr [(ah "_node2info",.ref (os.length+2))] [.dict []] "_ready_nodes" .none (by exact iK rfl) (by exact iK rfl);have s3:=λfr=>step fr [(ah "_node2info",.ref (os.length+2)),(ah "_ready_nodes",.none)] [.dict []] "_npassedout" (.int 0) (by exact iK rfl) (by exact iK rfl);have s4:=λfr=>step fr [(ah "_node2info",.ref (os.length+2)),(ah "_ready_nodes",.none),(ah "_npassedout",.int 0)] [.dict []] "_nfinished" (.int 0) (by exact iK rfl) (by exact iK rfl);have q1:jY [] "_node2info" (.ref (os.length+2))= [(ah "_node2info",.ref (os.length+2))]:=by rfl
 have q2:jY [(ah "_node2info",.ref (os.length+2))] "_ready_nodes" .none= [(ah "_node2info",.ref (os.length+2)),(ah "_ready_nodes",.none)]:=by rfl
 have q3:jY [(ah "_node2info",.ref (os.length+2)),(ah "_ready_nodes",.none)] "_npassedout" (.int 0)= [(ah "_node2info",.ref (os.length+2)),(ah "_ready_nodes",.none),(ah "_npassedout",.int 0)]:=by rfl
 have q4:jY [(ah "_node2info",.ref (os.length+2)),(ah "_ready_nodes",.none),(ah "_npassedout",.int 0)] "_nfinished" (.int 0)=uZ (os.length+2) .none 0 0:=by rfl
 rw [q1] at s1;rw [q2] at s2;rw [q3] at s3;rw [q4] at s4;simp only [qY,seqM,zK,mpure,yY,getF,c8,eX,if_true,if_false,cU,reduceIte,dQ,sizeOk,gF,eS,decide_true,aQ,e9,dS,s1,s2,s3,s4,aU,Nat.reduceAdd,cmpC,isV,uW,cP,fE,fk,cR,reduceCtorEq,aq]
end
structure Nd where
 nm:Str
 info:Nat
 dd:Nat
 su:Nat
 np:Int
 ss:List Str
noncomputable def ED(x:Nd):O:=.slots 40 x.dd [af (.str x.nm),af (.int x.np),af (.ref x.su),ae,ae]
structure Sr where
 i:Nat
 d:Nat
 hV:Nat
 dj:List Nd
 rd:Option (Nat × List Str)
 po:Int
 fi:Int
noncomputable def rdV:Option (Nat × List Str)->V
 |none=>.none
 |some p=>.ref p.1
noncomputable def Ck:Option (Nat × List Str)->List Nat
 |none=>[]
 |some p=>[p.1]
noncomputable def nE(x:Nd):List Nat:=[x.info,x.dd,x.su]
noncomputable def idx(S:Sr):List Nat:=S.i::S.d::S.hV::(Ck S.rd++S.dj.flatMap nE)
structure gy(os:List O)(S:Sr):Prop where
 inst:os[S.i]? =af (.inst 137 S.d)
 ns:os[S.d]? =af (.ns (uZ S.hV (rdV S.rd) S.po S.fi))
 dict:os[S.hV]? =af (.dict (S.dj.map λx=>(x.nm,.ref x.info)))
 nd:∀x∈S.dj,os[x.info]? =af (ED x)/\os[x.dd]? =af (.ns [])/\os[x.su]? =af (.list (x.ss.map .str))
 rd:∀r l,S.rd=af (r,l)->os[r]? =af (.list (l.map .str))
 nodup:(idx S).Nodup
 names:(S.dj.map (·.nm)).Nodup
theorem aY{o:O}(h:os[i]? =af o):i<os.length:=(cS.mp h).1
theorem bI{l:List O}{o:O}(h:os[i]? =af o):(os++l)[i]? =af o:=by refine (aJ (aY h)).trans ?_;exact h
theorem bC{o x:O}(h:os[i]? =af o)(hn:j≠i):(os.set j x)[i]? =af o:=by refine (bH hn).trans ?_;exact h
theorem dA{o x:O}(h:os[i]? =af o):(os.set i x)[i]? =af x:=dX (aY h)
section
variable{S S':Sr}
theorem gy.lt(h:gy os S):∀j∈idx S,j<os.length:=λj hj=>by
 simp only [idx,aZ,aG] at hj;rcases hj with rfl|rfl|rfl|hj|hj
 ·exact aY h.inst
 ·exact aY h.ns
 ·exact aY h.dict
 ·induction hr:S.rd using aw with
  |none=>rw [hr] at hj;obtain ⟨⟩:=hj
  |some p=>rw [hr] at hj;obtain rfl:=aL.mp hj;exact aY (h.rd p.1 p.2 hr)
 ·refine aR (cJ.mp hj) λx hx hj=>?_;have:=h.nd x hx;simp only [nE,aZ,de,or_false] at hj;rcases hj with rfl|rfl|rfl
  ·exact aY this.1
  ·exact aY this.2.1
  ·exact aY this.2.2
theorem gy.of_same(h:gy os S)(hs:∀j∈idx S,os'[j]? =os[j]?):gy os' S:=by
 have m1:S.i∈idx S:=by exact fm
 have m2:S.d∈idx S:=by simp [idx]
 have m3:S.hV∈idx S:=by simp [idx]
 have m4:∀x∈S.dj,∀j∈nE x,j∈idx S:=λx hx j hj=>by
  simp only [idx,aZ,aG];exact .inr (.inr (.inr (.inr (cJ.mpr ⟨x,hx,hj⟩))))
 refine ⟨(hs _ m1).trans h.inst,(hs _ m2).trans h.ns,(hs _ m3).trans h.dict,λx hx=>?_,λr l hr=>(hs r (by simp [idx,hr,Ck])).trans (h.rd r l hr),h.nodup,h.names⟩;refine cW (h.nd x hx) λa b c=>?_;exact ⟨(hs _ (m4 x hx _ (by exact fm))).trans a,(hs _ (m4 x hx _ (by simp [nE]))).trans b,(hs _ (m4 x hx _ (by simp [nE]))).trans c⟩
theorem gy.grow(h:gy os S)(l:List O):gy (os++l) S:=h.of_same λj hj=>aJ (h.lt j hj)
theorem gy.other(h:gy os S)(hj:j∉idx S)(x:O):gy (os.set j x) S:=h.of_same λi hi=>bH (by intro q;subst q;exact hj hi)
structure mx(os:List O)(S:Sr)(os':List O)(S':Sr):Prop where
 len:os.length<=os'.length
 keep:∀j,j<os.length->j∉idx S->os'[j]? =os[j]?
 idx:∀j∈Internal.idx S',j∈Internal.idx S∨os.length<=j
theorem mx.refl:mx os S os S:=⟨ax _,λ_ _ _=>rfl,λ_ h=>.inl h⟩
theorem mx.trans{Ew:List O}{XS:Sr}(x:mx os S os' S')(y:mx os' S' Ew XS):mx os S Ew XS:=
 ⟨ai x.len y.len,λj h1 h2=>(y.keep j (ag h1 x.len) λh=>(x.idx j h).elim h2 λh=>absurd h1 (cD.mpr h)).trans (x.keep j h1 h2),
  λj hj=>(y.idx j hj).elim (λh=>x.idx j h) λh=>.inr (ai x.len h)⟩
theorem mx.grow(l:List O):mx os S (os++l) S:=⟨by simp,λj h _=>aJ h,λj h=>.inl h⟩
theorem mx.set(hj:j∈Internal.idx S)(x:O):mx os S (os.set j x) S:=⟨by simp,λi _ hi=>bH (by intro q;subst q;exact hi hj),λi h=>.inl h⟩
theorem mx.Lo{XS:Sr}(x:mx os S os' S')(h:∀j∈Internal.idx XS,j∈Internal.idx S'∨os.length<=j):mx os S os' XS:=⟨x.len,x.keep,λj hj=>(h j hj).elim (x.idx j) .inr⟩
noncomputable def upd(nm:Str)(f:Nd->Nd)(l:List Nd):List Nd:=l.map λy=>if y.nm=nm then f y else y
theorem Je{f:Nd->Nd}(hf:∀y,nE (f y)=nE y)(l:List Nd):(upd nm f l).flatMap nE=l.flatMap nE:=by
 induction l with
 |nil=>rfl
 |cons y r ih=>
  unfold upd at ih ⊢;rw [bx,bz,bz,ih];split
  ·rw [hf]
  ·rfl
theorem tj{f:Nd->Nd}{g:Nd->α}(hf:∀y,g (f y)=g y)(l:List Nd):(upd nm f l).map g=l.map g:=by
 unfold upd;refine (dw).trans ?_;apply d9;intro y _;show g (if y.nm=nm then f y else y)=g y;split
 ·exact hf y
 ·rfl
theorem vH{l:List Nd}(h:(l.map (·.nm)).Nodup){x y:Nd}(hx:x∈l)(hy:y∈l)(e:x.nm=y.nm):x=y:=by
 induction l with
 |nil=>exact absurd hx aV
 |cons a r ih=>
  rw [bx,bu] at h;rcases jJ hx with qk|qk<;>rcases jJ hy with hy1|hy1
  ·exact qk.trans hy1.symm
  ·exact absurd (aT.mpr ⟨y,hy1,by rw [←qk];exact e.symm⟩) h.1
  ·exact absurd (aT.mpr ⟨x,qk,by rw [←hy1];exact e⟩) h.1
  ·exact ih h.2 qk hy1
theorem gy.apart(h:gy os S){x y:Nd}(hx:x∈S.dj)(hy:y∈S.dj)(hn:x.nm≠y.nm):∀a∈nE x,a∉nE y:=by
 have hnd:(S.dj.flatMap nE).Nodup:=by
  have:=h.nodup;simp only [idx,bu,bo] at this;exact this.2.2.2.2.1
 have:∀l:List Nd,(l.flatMap nE).Nodup->x∈l->y∈l->∀a∈nE x,a∉nE y:=by
  intro l;induction l with
  |nil=>intro _ hx;cases hx
  |cons b r ih=>
   intro hl hx hy a ha hb;rw [bz,bo] at hl;rcases jJ hx with qk|qk<;>rcases jJ hy with hy1|hy1
   ·exact hn (by rw [qk,hy1])
   ·exact hl.2.2 a (qk▸ha) a (cJ.mpr ⟨y,hy1,hb⟩) rfl
   ·exact hl.2.2 a (hy1▸hb) a (cJ.mpr ⟨x,qk,ha⟩) rfl
   ·exact ih hl.2.1 qk hy1 a ha hb
 exact this _ hnd hx hy
theorem gy.head(h:gy os S){x:Nd}(hx:x∈S.dj){a:Nat}(ha:a∈nE x):a≠S.i/\a≠S.d/\a≠S.hV/\a∉Ck S.rd:=by
 have hm:a∈S.dj.flatMap nE:=cJ.mpr ⟨x,hx,ha⟩;have:=h.nodup;simp only [idx,bu,aZ,aG,not_or,bo] at this;refine iQ this λq'1 q'2 q'3 Xh h11 h12=>?_;obtain ⟨h1,h2,h3,h4⟩:=q'1;obtain ⟨h5,h6,h7⟩:=q'2;obtain ⟨h8,h9⟩:=q'3;exact ⟨λq=>h4 (q▸hm),λq=>h7 (q▸hm),λq=>h9 (q▸hm),λq=>h12 a q a hm rfl⟩
theorem xX{x:Nd}(hx:x∈S.dj){a:Nat}(ha:a∈nE x):a∈idx S:=by
 simp only [idx,aZ,aG];exact .inr (.inr (.inr (.inr (cJ.mpr ⟨x,hx,ha⟩))))
theorem Bi:∀{l:List Nd}{x:Nd},(l.flatMap nE).Nodup->x∈l->(nE x).Nodup
 |b::r,x,h,hx=>by
  rw [bz,bo] at h;rcases jJ hx with qk|qk
  ·rw [qk];exact h.1
  ·exact Bi h.2.1 qk
theorem gy.Jf(h:gy os S){x:Nd}(hx:x∈S.dj)(v:Int):gy (os.set x.info (ED {x with np:=v})) {S with dj:=upd x.nm (λy=>{y with np:=v}) S.dj}/\mx os S (os.set x.info (ED {x with np:=v})) {S with dj:=upd x.nm (λy=>{y with np:=v}) S.dj}:=by
 have hxi:x.info∈nE x:=by exact fm
 refine iA (h.head hx hxi) λg1 g2 g3 g4=>?_;refine cW (h.nd x hx) λn1 n2 n3=>?_;have Ip:x.info≠x.dd/\x.info≠x.su:=by
  have:(S.dj.flatMap nE).Nodup:=by
   have:=h.nodup;simp only [idx,bu,bo] at this;exact this.2.2.2.2.1
  have Ys:(nE x).Nodup:=Bi this hx;simp only [nE,bu,aZ,de,or_false,not_or] at Ys;exact Ys.1
 have hidx:idx {S with dj:=upd x.nm (λy=>{y with np:=v}) S.dj}=idx S:=by
  unfold idx;simp only;rw [Je (f:=λy=>{y with np:=v}) (λy=>rfl)]
 refine ⟨⟨bC h.inst g1,bC h.ns g2,?_,λy hy=>?_,λr l hr=>bC (h.rd r l hr) (λq=>g4 (by show x.info∈Ck S.rd;rw [show S.rd=af (r,l) from hr];simp [Ck,q])),by rw [hidx];exact h.nodup,?_⟩,(mx.set (xX hx hxi) _).Lo λj hj=>.inl (hidx▸hj)⟩
 ·show (os.set x.info _)[S.hV]? =_;rw [tj (f:=λy=>{y with np:=v}) (g:=λx=>(x.nm,iu x.info)) (λy=>rfl)];exact bC h.dict g3
 ·refine aR (aT.mp hy) λy_0 pN q'4=>?_;obtain rfl:=q'4;by_cases hn:y_0.nm=x.nm
  ·obtain rfl:=vH h.names pN hx hn;simp only [if_true];exact ⟨dA n1,bC n2 Ip.1,bC n3 Ip.2⟩
  ·simp only [hn,if_false];refine cW (h.nd y_0 pN) λm1 m2 m3=>?_;have:=h.apart hx pN (λq=>hn q.symm) x.info hxi;simp only [nE,aZ,de,or_false,not_or] at this;exact ⟨bC m1 this.1,bC m2 this.2.1,bC m3 this.2.2⟩
 ·show ((upd x.nm _ S.dj).map (·.nm)).Nodup;rw [tj (f:=λy=>{y with np:=v}) (g:=λx=>x.nm) (λy=>rfl)];exact h.names
end
variable{S:Sr}
section
variable{S':Sr}
theorem gy.flat(h:gy os S):(S.dj.flatMap nE).Nodup:=by
 have:=h.nodup;simp only [idx,bu,bo] at this;exact this.2.2.2.2.1
theorem gy.ndn(h:gy os S){x:Nd}(hx:x∈S.dj):x.info≠x.dd/\x.info≠x.su/\x.dd≠x.su:=by
 have:=Bi h.flat hx;simp only [nE,bu,aZ,de,or_false,not_or] at this;exact ⟨this.1.1,this.1.2,this.2.1⟩
theorem gy.Wn(h:gy os S){x:Nd}(hx:x∈S.dj)(f:Nd->Nd)(hf:∀y,(f y).nm=y.nm/\nE (f y)=nE y)(hs:∀j,j∉nE x->os'[j]? =os[j]?)(hl:os.length<=os'.length)(h1:os'[x.info]? =af (ED (f x)))(h2:os'[x.dd]? =af (.ns []))(h3:os'[x.su]? =af (.list ((f x).ss.map .str))):
  gy os' {S with dj:=upd x.nm f S.dj}/\mx os S os' {S with dj:=upd x.nm f S.dj}:=by
 have hidx:idx {S with dj:=upd x.nm f S.dj}=idx S:=by
  unfold idx;simp only;rw [Je λy=>(hf y).2]
 have JO:∀a,a=S.i∨a=S.d∨a=S.hV∨a∈Ck S.rd->a∉nE x:=λa ha hm=>by
  refine iA (h.head hx hm) λg1 g2 g3 g4=>?_;rcases ha with q|q|q|q
  ·exact g1 q
  ·exact g2 q
  ·exact g3 q
  ·exact g4 q
 have Rx:∀y,(f y).info=y.info/\(f y).dd=y.dd/\(f y).su=y.su:=λy=>by
  have:=(hf y).2;simp only [nE,List.cons.injEq,and_true] at this;exact this
 refine ⟨⟨(hs _ (JO _ (.inl rfl))).trans h.inst,(hs _ (JO _ (.inr (.inl rfl)))).trans h.ns,?_,λy hy=>?_,λr l hr=>(hs r (JO r (.inr (.inr (.inr (by show r∈Ck S.rd;rw [show S.rd=af (r,l) from hr];exact fm)))))).trans (h.rd r l hr),by rw [hidx];exact h.nodup,?_⟩,⟨hl,λj _ hj=>hs j λhm=>hj (xX hx hm),λj hj=>.inl (hidx▸hj)⟩⟩
 ·show os'[S.hV]? =af (.dict ((upd x.nm f S.dj).map λx=>(x.nm,iu x.info)));rw [tj (f:=f) (g:=λx=>(x.nm,iu x.info)) (λy=>by simp only [(hf y).1,(Rx y).1])];exact (hs _ (JO _ (.inr (.inr (.inl rfl))))).trans h.dict
 ·refine aR (aT.mp hy) λy_0 pN q'1=>?_;obtain rfl:=q'1;by_cases hn:y_0.nm=x.nm
  ·obtain rfl:=vH h.names pN hx hn;simp only [if_true];rw [(Rx y_0).1,(Rx y_0).2.1,(Rx y_0).2.2];exact ⟨h1,h2,h3⟩
  ·simp only [hn,if_false];refine cW (h.nd y_0 pN) λm1 m2 m3=>?_;have ap:=h.apart pN hx hn;exact ⟨(hs _ (ap _ (by exact fm))).trans m1,(hs _ (ap _ (by simp [nE]))).trans m2,(hs _ (ap _ (by simp [nE]))).trans m3⟩
 ·show ((upd x.nm f S.dj).map (·.nm)).Nodup;rw [tj (f:=f) (g:=λx=>x.nm) (λy=>(hf y).1)];exact h.names
theorem Jg{x:O}(hn:j≠i):(os.set j x)[i]? =os[i]? :=bH hn
theorem gy.Wo(h:gy os S){x:Nd}(hx:x∈S.dj)(l:List Str):gy (os.set x.su (.list (l.map .str))) {S with dj:=upd x.nm (λy=>{y with ss:=l}) S.dj}/\mx os S (os.set x.su (.list (l.map .str))) {S with dj:=upd x.nm (λy=>{y with ss:=l}) S.dj}:=by
 refine cW (h.nd x hx) λn1 n2 n3=>?_;refine cW (h.ndn hx) λd1 d2 d3=>?_;exact h.Wn hx (λy=>{y with ss:=l}) (λy=>⟨rfl,rfl⟩) (λj hj=>Jg (by rintro rfl;exact hj (by simp [nE]))) (by simp) (bC n1 (λq=>d2 q.symm)) (bC n2 (λq=>d3 q.symm)) (dA n3)
theorem Jh{hV:Nat}{rd:V}{po fi v:Int}:jY (uZ hV rd po fi) "_npassedout" (.int v)=uZ hV rd v fi:=by rfl
theorem Ji{hV:Nat}{rd:V}{po fi v:Int}:jY (uZ hV rd po fi) "_nfinished" (.int v)=uZ hV rd po v:=by rfl
theorem Jj{hV:Nat}{rd w:V}{po fi:Int}:jY (uZ hV rd po fi) "_ready_nodes" w=uZ hV w po fi:=by rfl
theorem Jk{hV:Nat}{rd:V}{po fi:Int}:lookE (uZ hV rd po fi) "_node2info" =af (.ref hV)/\lookE (uZ hV rd po fi) "_ready_nodes" =af rd/\lookE (uZ hV rd po fi) "_npassedout" =af (.int po)/\lookE (uZ hV rd po fi) "_nfinished" =af (.int fi):=by
 trivial
theorem gy.headApart(h:gy os S):S.i≠S.d/\S.i≠S.hV/\S.d≠S.hV/\(∀r∈Ck S.rd,S.i≠r/\S.d≠r/\S.hV≠r)/\∀x∈S.dj,∀a∈nE x,S.i≠a/\S.d≠a/\S.hV≠a:=by
 have:=h.nodup;simp only [idx,bu,aZ,aG,not_or,bo] at this;refine iQ this λq'2 q'3 q'4 Xh h11 h12=>?_;obtain ⟨h1,h2,h3,h4⟩:=q'2;obtain ⟨h5,h6,h7⟩:=q'3;obtain ⟨h8,h9⟩:=q'4;refine ⟨h1,h2,h5,λr hr=>⟨λq=>h3 (q▸hr),λq=>h6 (q▸hr),λq=>h8 (q▸hr)⟩,λx hx a ha=>?_⟩;have hm:a∈S.dj.flatMap nE:=cJ.mpr ⟨x,hx,ha⟩;exact ⟨λq=>h4 (q▸hm),λq=>h7 (q▸hm),λq=>h9 (q▸hm)⟩
theorem gy.R3(h:gy os S)(po fi:Int):gy (os.set S.d (.ns (uZ S.hV (rdV S.rd) po fi))) {S with po:=po,fi:=fi}/\mx os S (os.set S.d (.ns (uZ S.hV (rdV S.rd) po fi))) {S with po:=po,fi:=fi}:=by
 refine iJ h.headApart λa1 a2 a3 a4 a5=>?_;refine ⟨⟨bC h.inst (λq=>a1 q.symm),dA h.ns,bC h.dict a3,λx hx=>?_,λr l hr=>bC (h.rd r l hr) (a4 r (by show r∈Ck S.rd;rw [show S.rd=af (r,l) from hr];exact fm)).2.1,h.nodup,h.names⟩,(mx.set (by simp [idx]) _).Lo λj hj=>.inl hj⟩;refine cW (h.nd x hx) λm1 m2 m3=>?_;exact ⟨bC m1 (a5 x hx _ (by exact fm)).2.1,bC m2 (a5 x hx _ (by simp [nE])).2.1,bC m3 (a5 x hx _ (by simp [nE])).2.1⟩
theorem gy.Wq(h:gy os S)(hr:os[r]? =af (.list (l.map .str)))(hn:r∉idx S)(h0:S.rd=ae):gy (os.set S.d (.ns (uZ S.hV (.ref r) S.po S.fi))) {S with rd:=af (r,l)}:=by
 refine iJ h.headApart λa1 a2 a3 a4 a5=>?_;have hn':r≠S.i/\r≠S.d/\r≠S.hV/\r∉S.dj.flatMap nE:=by
  simp only [idx,aZ,aG,not_or] at hn;exact ⟨hn.1,hn.2.1,hn.2.2.1,hn.2.2.2.2⟩
 refine ⟨bC h.inst (λq=>a1 q.symm),dA h.ns,bC h.dict a3,λx hx=>?_,λr' l' hr'=>?_,?_,h.names⟩
 ·refine cW (h.nd x hx) λm1 m2 m3=>?_;exact ⟨bC m1 (a5 x hx _ (by exact fm)).2.1,bC m2 (a5 x hx _ (by simp [nE])).2.1,bC m3 (a5 x hx _ (by simp [nE])).2.1⟩
 ·obtain ⟨⟩:=hr';exact bC hr (λq=>hn'.2.1 q.symm)
 ·have:=h.nodup;simp only [idx,h0,Ck,dS,bu,aZ,not_or] at this;simp only [idx,Ck,e9,dS,bu,aZ,not_or];refine iA this λq'5 q'6 h6 h7=>?_;obtain ⟨h1,h2,h3⟩:=q'5;obtain ⟨h4,h5⟩:=q'6;exact ⟨⟨h1,h2,λq=>hn'.1 q.symm,h3⟩,⟨h4,λq=>hn'.2.1 q.symm,h5⟩,⟨λq=>hn'.2.2.1 q.symm,h6⟩,hn'.2.2.2,h7⟩
theorem gy.R4(h:gy os S)(h0:S.rd=af (r,l))(l':List Str):gy (os.set r (.list (l'.map .str))) {S with rd:=af (r,l')}/\mx os S (os.set r (.list (l'.map .str))) {S with rd:=af (r,l')}:=by
 refine iJ h.headApart λa1 a2 a3 a4 a5=>?_;have hrd:Ck S.rd= [r]:=by refine h0▸ ?_;rfl
 refine cW (a4 r (by rw [hrd];exact fm)) λb1 b2 b3=>?_;have hidx:idx {S with rd:=af (r,l')}=idx S:=by unfold idx;simp only;refine hrd▸ ?_;rfl
 have hns:rdV S.rd= .ref r:=by refine h0▸ ?_;rfl
 have Xn:∀x∈S.dj,∀a∈nE x,r≠a:=λx hx a ha q=>(h.head hx ha).2.2.2 (by rw [hrd,←q];exact fm);refine ⟨⟨bC h.inst (λq=>b1 q.symm),?_,bC h.dict (λq=>b3 q.symm),λx hx=>?_,λr' ZV hr'=>?_,by rw [hidx];exact h.nodup,h.names⟩,(mx.set (by simp [idx,hrd]) _).Lo λj hj=>.inl (hidx▸hj)⟩
 ·have:=h.ns;rw [hns] at this;exact bC this (λq=>b2 q.symm)
 ·refine cW (h.nd x hx) λm1 m2 m3=>?_;exact ⟨bC m1 (Xn x hx _ (by exact fm)),bC m2 (Xn x hx _ (by simp [nE])),bC m3 (Xn x hx _ (by simp [nE]))⟩
 ·obtain ⟨⟩:=hr';exact dA (h.rd r l h0)
noncomputable def zL(k:Nat)(nm:Str):List O:=[.ns [],.slots 40 k [af (.str nm),af (.int 0),af (.ref (k+2)),ae,ae],.list []]
theorem gy.Ws(h:gy os S)(hn:nm∉S.dj.map (·.nm)):
  gy ((os++zL os.length nm).set S.hV (.dict ((S.dj.map λx=>(x.nm,iu x.info))++ [(nm,.ref (os.length+1))]))) {S with dj:=S.dj++ [⟨nm,os.length+1,os.length,os.length+2,0,[]⟩]}/\
  mx os S ((os++zL os.length nm).set S.hV (.dict ((S.dj.map λx=>(x.nm,iu x.info))++ [(nm,.ref (os.length+1))]))) {S with dj:=S.dj++ [⟨nm,os.length+1,os.length,os.length+2,0,[]⟩]}:=by
 refine iJ h.headApart λa1 a2 a3 a4 a5=>?_;have l3:=aY h.dict;have hidx:∀j,j∈idx {S with dj:=S.dj++ [⟨nm,os.length+1,os.length,os.length+2,0,[]⟩]}↔j∈idx S∨j=os.length+1∨j=os.length∨j=os.length+2:=λj=>by
  simp only [idx,ot,aZ,aG,bz,kz,bB,nE,de,or_false];constructor
  ·rintro (q|q|q|q|q|q)
   ·exact .inl (.inl q)
   ·exact .inl (.inr (.inl q))
   ·exact .inl (.inr (.inr (.inl q)))
   ·exact .inl (.inr (.inr (.inr (.inl q))))
   ·exact .inl (.inr (.inr (.inr (.inr q))))
   ·exact .inr q
  ·rintro ((q|q|q|q|q)|q)
   ·exact .inl q
   ·exact .inr (.inl q)
   ·exact .inr (.inr (.inl q))
   ·exact .inr (.inr (.inr (.inl q)))
   ·exact .inr (.inr (.inr (.inr (.inl q))))
   ·exact .inr (.inr (.inr (.inr (.inr q))))
 refine ⟨⟨bC (bI h.inst) (λq=>a2 q.symm),bC (bI h.ns) (λq=>a3 q.symm),?_,λx hx=>?_,λr l hr=>bC (bI (h.rd r l hr)) (a4 r (by show r∈Ck S.rd;rw [show S.rd=af (r,l) from hr];exact fm)).2.2,?_,?_⟩,⟨by simp,λj h1 h2=>?_,λj hj=>?_⟩⟩
 ·show (List.set _ S.hV _)[S.hV]? =_;rw [dA (bI h.dict),cw];rfl
 ·rcases aG.mp hx with hx|hx
  ·refine cW (h.nd x hx) λm1 m2 m3=>?_;exact ⟨bC (bI m1) (a5 x hx _ (by exact fm)).2.2,bC (bI m2) (a5 x hx _ (by simp [nE])).2.2,bC (bI m3) (a5 x hx _ (by simp [nE])).2.2⟩
  ·obtain rfl:=aL.mp hx;exact ⟨bC (wW 1) (by show S.hV≠os.length+1;exact OX l3),bC cL (by show S.hV≠os.length;exact bP l3),bC (wW 2) (by show S.hV≠os.length+2;exact OX (gA l3))⟩
 ·have hnd:=h.nodup;have hlt:=h.lt;have e:idx {S with dj:=S.dj++ [⟨nm,os.length+1,os.length,os.length+2,0,[]⟩]}=idx S++ [os.length+1,os.length,os.length+2]:=by
   simp [idx,nE,ot,aQ]
  rw [e,bo];refine ⟨hnd,by simp,λa ha b hb q=>?_⟩;have:=hlt a ha;simp only [aZ,de,or_false] at hb;exact absurd this (cD.mpr (q▸hb.elim (λe=>e▸lF _) λe=>e.elim (λe=>e▸ax _) λe=>e▸aF _ 2))
 ·show ((S.dj++ [(⟨nm,os.length+1,os.length,os.length+2,0,[]⟩:Nd)]).map (·.nm)).Nodup;rw [cw,bo];exact ⟨h.names,by exact iK rfl,λa ha b hb q=>by simp at hb;subst hb;subst q;exact hn ha⟩
 ·(refine (Jg (by rintro rfl;exact h2 (by simp [idx]))).trans ?_);exact aJ h1
 ·rcases (hidx j).mp hj with q|q|q|q
  ·exact .inl q
  ·exact .inr (eN (ar q.symm))
  ·exact .inr (by exact ar q.symm)
  ·exact .inr (ai (aF _ 2) (ar q.symm))
end
theorem dR(v:V)(z:List Nat)(s:eP):ef (.ret v) z s=af (v,s):=rfl
theorem bX{id:String}:eK (cx P aj cQ ao) o (.bi id) as z ⟨fr,os⟩=(ft (cx P aj cQ ao) id o as z ⟨fr,os⟩).map λp=>(.ret p.1,p.2):=by
 unfold eK;dsimp only;rw [if_pos (by rfl)];rw [zK];cases ft (cx P aj cQ ao) id o as z ⟨fr,os⟩<;>rfl
theorem KU:eK (cx P aj cQ hd) o (.bi "list.pop") as z ⟨fr,os⟩=(ft (cx P aj cQ hd) "list.pop" o as z ⟨fr,os⟩).map λp=>(.ret p.1,p.2):=by
 unfold eK;dsimp only;rw [if_pos (by simp)];rw [zK];cases ft (cx P aj cQ hd) "list.pop" o as z ⟨fr,os⟩<;>rfl
theorem tm{f:bk}(hk:ka (Kw P) (.ref f)=ao):eK (cx P aj cQ ao) o (.fn f) as z ⟨fr,os⟩=(cQ (.top f) (o::as) os z).map λp=>(p.1,⟨fr,p.2⟩):=gW hk
theorem k9{id:String}(h:os[i]? =af (.list xs))(hn:sU nm=af id):ez c (.ref i) nm z ⟨fr,os⟩=af (.bi id,⟨fr,os⟩):=(ba (eC h z fr)).trans (ba (fj (o:=idOf (.list xs) nm) hn z _))
theorem Aj{id:String}(h:os[i]? =af (.dict es))(hn:wI nm=af id):ez c (.ref i) nm z ⟨fr,os⟩=af (.bi id,⟨fr,os⟩):=(ba (eC h z fr)).trans (ba (fj (o:=idOf (.dict es) nm) hn z _))
theorem Ub{xs:List Str}{id:String}(h:os[i]? =af (.set xs))(hn:LL nm=af id):ez c (.ref i) nm z ⟨fr,os⟩=af (.bi id,⟨fr,os⟩):=(ba (eC h z fr)).trans (ba (fj (o:=idOf (.set xs) nm) hn z _))
theorem rr{id:String}(hn:AA nm=af id):ez c (.str x) nm z ⟨fr,os⟩=af (.bi id,⟨fr,os⟩):=ba (fj hn z _)
theorem mJ:sU "append" =af "list.append" :=by rfl
theorem KW:sU "extend" =af "list.extend" :=by rfl
theorem M6:sU "clear" =af "list.clear" :=by rfl
theorem M7:sU "pop" =af "list.pop" :=by rfl
theorem M8:sU "index" =af "list.index" :=by rfl
theorem D0:wI "get" =af "dict.get" :=by rfl
theorem KY:wI "values" =af "dict.values" :=by rfl
theorem Uc:LL "add" =af "set.add" :=by rfl
theorem M9:AA "lower" =af "str.lower" :=by rfl
theorem vI:AA "join" =af "str.join" :=by rfl
theorem Na{s:eP}:ft c "list.append" o as z s=z8 c o as z s:=by kernel_rfl
theorem Nb{s:eP}:ft c "list.extend" o as z s=Dj c o as z s:=by kernel_rfl
theorem Qr{s:eP}:ft c "list.clear" o as z s=GS c o as z s:=by kernel_rfl
theorem Wt{s:eP}:ft c "list.pop" o as z s=SP c o as z s:=by kernel_rfl
theorem Qs{s:eP}:ft c "list.index" o as z s=GU c o as z s:=by kernel_rfl
theorem Nc{s:eP}:ft c "dict.get" o as z s=LN c o as z s:=by kernel_rfl
theorem m_values{s:eP}:ft c "dict.values" o as z s=Dk c o as z s:=by kernel_rfl
theorem Ud{s:eP}:ft c "set.add" o as z s=LO c o as z s:=by kernel_rfl
theorem m_lower{s:eP}:ft c "str.lower" o as z s=GV o as z s:=by kernel_rfl
theorem Ue{s:eP}:ft c "str.join" o as z s=IG c o as z s:=by kernel_rfl
theorem pG(h:os[i]? =af (.list xs))(hz:i∉z)(hs:xs.length+1<=1000000):ft c "list.append" (.ref i) [v] z ⟨fr,os⟩=af (.none,⟨fr,os.set i (.list (xs++ [v]))⟩):=Na.trans ((ba (eC h z fr)).trans (ba (lQ (o:=.list (xs++ [v])) h (decide_eq_true (by simpa using hs)) hz fr)))
theorem Qt(h:os[i]? =af (.list xs))(hz:i∉z):ft c "list.clear" (.ref i) [] z ⟨fr,os⟩=af (.none,⟨fr,os.set i (.list [])⟩):=Qr.trans ((ba (eC h z fr)).trans (ba (lQ (o:=.list []) h rfl hz fr)))
theorem R5(h:os[i]? =af (.list (xs++ [v])))(hz:i∉z)(hs:xs.length<=1000000):ft c "list.pop" (.ref i) [] z ⟨fr,os⟩=af (v,⟨fr,os.set i (.list xs)⟩):=by
 refine Wt.trans ((ba (eC h z fr)).trans ((ba (fj (a:=v) List.getLast?_concat z _)).trans ?_));rw [List.dropLast_concat];exact ba (lQ (o:=.list xs) h (decide_eq_true hs) hz fr)
theorem Nf{k:Str}(h:os[i]? =af (.dict es)):ft c "dict.get" (.ref i) [.str k] z ⟨fr,os⟩=af ((lookE es k).getD .none,⟨fr,os⟩):=Nc.trans (ba (eC h z fr))
theorem Ng(h:os[i]? =af (.dict es)):ft c "dict.values" (.ref i) [] z ⟨fr,os⟩=af (.ref os.length,⟨fr,os++ [.values i]⟩):=m_values.trans ((ba (eC h z fr)).trans (dQ rfl z fr os))
theorem Wu{xs:List Str}{v:Str}(h:os[i]? =af (.set xs))(hz:i∉z)(hs:xs.length<3999):ft c "set.add" (.ref i) [.str v] z ⟨fr,os⟩=af (.none,⟨fr,os.set i (.set (if v∈xs then xs else xs++ [v]))⟩):=Ud.trans ((ba (eC h z fr)).trans (ba (lQ (o:=.set (if v∈xs then xs else xs++ [v])) h (decide_eq_true (by split<;>first|omega|(rw [aq];exact zq hs))) hz fr)))
theorem m_ord{s:eP}:Pj c "ord" as z s=SS as z s:=by kernel_rfl
theorem Wv{s:eP}:Pj c "chr" as z s=Ph as z s:=by kernel_rfl
theorem Ug{s:eP}:Pj c "iter" as z s=LP c as z s:=by kernel_rfl
theorem Qu{s:eP}:AD c "range" as z s=Dp as z s:=by kernel_rfl
theorem Qv{s:eP}:AD c "tuple" as z s=GW c as z s:=by kernel_rfl
theorem Uh{s:eP}:AD c "bool" as z s=LR c as z s:=by kernel_rfl
theorem Nh{id:String}(h:Pj (cx P aj cQ ao) id as z ⟨fr,os⟩=af (v,⟨fr,os'⟩)):dN (cx P aj cQ ao) (.bi id) as z ⟨fr,os⟩=af (.ret v,⟨fr,os'⟩):=(Bd (a:=Pj (cx P aj cQ ao) id as>>=λv=>aA (EA v)) (b:=fail) (show (cx P aj cQ ao).hd=ao from rfl) z _).trans (ba h)
theorem Ni{id:String}(h:AD (cx P aj cQ ao) id as z ⟨fr,os⟩=af (v,⟨fr,os'⟩)):dN (cx P aj cQ ao) (.type id) as z ⟨fr,os⟩=af (.ret v,⟨fr,os'⟩):=(Bd (a:=AD (cx P aj cQ ao) id as>>=λv=>aA (EA v)) (b:=fail) (show (cx P aj cQ ao).hd=ao from rfl) z _).trans (ba h)
theorem Jl(h:os[i]? =af (.list xs)∨os[i]? =af (.tuple xs)):dN (cx P aj cQ ao) (.bi "len") [.ref i] z ⟨fr,os⟩=af (.ret (.int xs.length),⟨fr,os⟩):=Nh (Eq.trans (b:=SR (cx P aj cQ ao) [.ref i] z ⟨fr,os⟩) (by kernel_rfl) (vR h (λh=>ba (eC h z fr)) λh=>ba (eC h z fr)))
theorem y5{k:Str}(h:os[i]? =af (.dict es))(hk:lookE es k=af v):d8 c (.ref i) (.str k) z ⟨fr,os⟩=af (v,⟨fr,os⟩):=(ba (eC h z fr)).trans (fj hk z _)
theorem xY{k:Str}(h:os[i]? =af (.dict es))(hz:i∉z)(hs:(jY es k v).length<=1000000):ny c (.ref i) (.str k) v z ⟨fr,os⟩=af ((),⟨fr,os.set i (.dict (jY es k v))⟩):=(ba (eC h z fr)).trans (lQ (o:=.dict (jY es k v)) h (decide_eq_true hs) hz fr)
theorem KZ(hz:∀j∈z,j<os.length):j0 (cx P aj cQ ao) z ⟨[("self",.ref (os.length+1)),("node",.str nm)],os++ [.ns [],.slots 40 os.length (gw 5 ae)]⟩=
  af (.next,⟨[("self",.ref (os.length+1)),("node",.str nm)],os++zL os.length nm⟩):=by
 have nz:os.length+1∉z:=λh=>by have:=hz _ h;exact (iw this).elim
 have step:∀(fr:eB) (vs:List (Option V)) (l:List O) (a:Str) (v:V) (p k:Nat),sT (Kw P) 40 a=af (p,k)->qK (Kw P) 40 a=af (af (.ref p))->k<vs.length->k<1000->ec (cx P aj cQ ao) (.ref (os.length+1)) a v z ⟨fr,os++ .ns []:: .slots 40 os.length vs::l⟩=af ((),⟨fr,os++ .ns []:: .slots 40 os.length (vs.set k (af v))::l⟩):=λfr vs l a v p k h1 h2 h3 h4=>by
  rw [wV (d:=os.length) (es:=[]) (wW 1) cL h1 h2 h3 h4 nz,Jd];rfl
 have s1:=λfr=>step fr (gw 5 ae) [] "node" (.str nm) 41 0 (T9 P).1 (T9 P).2 (by decide) (by decide);have s2:=λfr=>step fr [af (.str nm),ae,ae,ae,ae] [] "npredecessors" (.int 0) 42 1 (FF P).1 (FF P).2 (by exact iK rfl) (by decide);have s3:=λfr=>step fr [af (.str nm),af (.int 0),ae,ae,ae] [.list []] "successors" (.ref (os.length+2)) 43 2 (M0 P).1 (M0 P).2 (by exact iK rfl) (by decide);simp only [gw,List.set] at s1 s2 s3;simp only [j0,seqM,zK,mpure,yY,Cj,dR,uW,getF,putF,c8,eX,if_true,if_false,reduceIte,cU,dT,cR,fE,fk,reduceCtorEq,cmpC,isV,cP,dQ,sizeOk,gF,eS,decide_true,aQ,e9,dS,gw,s1,s2,s3,aU,aq,Nat.reduceAdd,zL]
theorem Ui(hz:∀j∈z,j<os.length):cN P aj (n+1) (.top 40) [.str nm] os z=af (.ret (.ref (os.length+1)),os++zL os.length nm):=by
 rw [Ua,KZ hz];rfl
theorem Uj:ka (Kw P) (.ref 40)=ao:=by kernel_rfl
theorem Qw:ka (Kw P) (.ref 137)=ao:=by kernel_rfl
theorem CX{l:List Nd}:lookE (l.map λx=>(x.nm,iu x.info)) nm=(l.find? λx=>x.nm=nm).map λx=>.ref x.info:=by
 induction l with
 |nil=>rfl
 |cons x r ih=>
  rw [bx,jx];dsimp only [lookE];by_cases h:x.nm=nm
  ·simp [h]
  ·simp [h,ih]
theorem xZ{l:List Nd}(hn:(l.map (·.nm)).Nodup){x:Nd}(hx:x∈l):lookE (l.map λx=>(x.nm,iu x.info)) x.nm=af (.ref x.info):=by
 refine (CX).trans ?_;induction hf:l.find? (λy=>y.nm=x.nm) using aw with
 |none=>rw [xj] at hf;exact absurd (decide_eq_true rfl) (hf x hx)
 |some y=>
  have h1:=qs hf;have h2:=z4 hf;rw [vH hn h1 hx (by simpa using h2)];rfl
theorem K0{l:List Nd}(hn:nm∉l.map (·.nm)):lookE (l.map λx=>(x.nm,iu x.info)) nm=ae:=by
 refine (CX).trans ?_;induction hf:l.find? (λy=>y.nm=nm) using aw with
 |none=>rfl
 |some y=>
  have h1:=qs hf;have h2:=z4 hf;exact absurd (aT.mpr ⟨y,h1,by simpa using h2⟩) hn
theorem gy.attr(h:gy os S)(fr:eB)(z:List Nat)(hd:Bool):eE (cx P aj cQ hd) (.ref S.i) "_node2info" z ⟨fr,os⟩=af (.ref S.hV,⟨fr,os⟩)/\eE (cx P aj cQ hd) (.ref S.i) "_ready_nodes" z ⟨fr,os⟩=af (rdV S.rd,⟨fr,os⟩)/\
  eE (cx P aj cQ hd) (.ref S.i) "_npassedout" z ⟨fr,os⟩=af (.int S.po,⟨fr,os⟩)/\eE (cx P aj cQ hd) (.ref S.i) "_nfinished" z ⟨fr,os⟩=af (.int S.fi,⟨fr,os⟩):=
 ⟨Ai h.inst h.ns (by exact fm) Jk.1 rfl,Ai h.inst h.ns (by exact iK rfl) Jk.2.1 (by cases S.rd<;>rfl),Ai h.inst h.ns (by exact iK rfl) Jk.2.2.1 rfl,Ai h.inst h.ns (by exact iK rfl) Jk.2.2.2 rfl⟩
theorem gy.D2(h:gy os S){f:bk}(hk:tW P name f=ao)(hn:lookE (uZ S.hV (rdV S.rd) S.po S.fi) name=ae)(fr:eB)(z:List Nat)(hd:Bool):ez (cx P aj cQ hd) (.ref S.i) name z ⟨fr,os⟩=af (.fn f,⟨fr,os⟩):=Qm h.inst h.ns hk hn
theorem noName{hV:Nat}{rd:V}{po fi:Int}:lookE (uZ hV rd po fi) "_get_nodeinfo" =ae/\lookE (uZ hV rd po fi) "add" =ae/\lookE (uZ hV rd po fi) "prepare" =ae/\lookE (uZ hV rd po fi) "get_ready" =ae/\lookE (uZ hV rd po fi) "is_active" =ae/\
  lookE (uZ hV rd po fi) "done" =ae/\lookE (uZ hV rd po fi) "_find_cycle" =ae:=by
 trivial
theorem Qx(h:gy os S){x:Nd}(hx:x∈S.dj):cN P aj (n+1) (.top 80) [.ref S.i,.str x.nm] os z=af (.ret (.ref x.info),os):=by
 rw [oc];have a1:=λfr=>(h.attr (P:=P) (aj:=aj) (cQ:=cN P aj n) fr z ao).1;have a2:=λfr=>Aj (c:=cy P aj n) (z:=z) (fr:=fr) h.dict D0;have a3:=λfr=>Nf (c:=cy P aj n) (z:=z) (fr:=fr) (k:=x.nm) h.dict;rw [xZ h.names hx] at a3;(delta ly;with_reducible repeat' (first|apply a1|apply a2|apply a3|exact dR _ _ _|exact br|apply bt|apply bq|apply bG|apply bO|exact bb|apply bh (by decide)|exact fe|apply fP (by decide)|exact aI|apply aO|(apply b8;apply bX)|(apply pF;focus with_unfolding_all exact rfl)|(apply ite_no;focus exact bj)|apply gz|with_unfolding_all rfl))
theorem Qy(h:gy os S)(hn:nm∉S.dj.map (·.nm))(hz:∀j∈z,j<os.length/\j∉idx S)(hl:S.dj.length<1000):cN P aj (n+2) (.top 80) [.ref S.i,.str nm] os z=
  af (.ret (.ref (os.length+1)),(os++zL os.length nm).set S.hV (.dict ((S.dj.map λx=>(x.nm,iu x.info))++ [(nm,.ref (os.length+1))]))):=by
 rw [oc];have a1:=λfr=>(h.attr (P:=P) (aj:=aj) (cQ:=cN P aj (n+1)) fr z ao).1;have a1':=λfr=>((h.grow (zL os.length nm)).attr (P:=P) (aj:=aj) (cQ:=cN P aj (n+1)) fr z ao).1;have a2:=λfr=>Aj (c:=cy P aj (n+1)) (z:=z) (fr:=fr) h.dict D0;have a3:=λfr=>Nf (c:=cy P aj (n+1)) (z:=z) (fr:=fr) (k:=nm) h.dict;rw [K0 hn] at a3;have a4:=λfr=>gW (P:=P) (aj:=aj) (cQ:=cN P aj (n+1)) (z:=z) (fr:=fr) (os:=os) (as:=[.str nm]) Uj;have a5:=Ui (P:=P) (aj:=aj) (n:=n) (nm:=nm) (λj hj=>(hz j hj).1);have np:jY (S.dj.map λx=>(x.nm,iu x.info)) nm (.ref (os.length+1))=(S.dj.map λx=>(x.nm,iu x.info))++ [(nm,.ref (os.length+1))]:=by
  dsimp only [jY];rw [if_neg];intro q;rw [iX] at q;refine aR q λe he hq=>?_;refine aR (aT.mp he) λx hx q'1=>?_;obtain rfl:=q'1;exact hn (aT.mpr ⟨x,hx,by simpa using hq⟩)
 have a6:=λfr=>xY (c:=cy P aj (n+1)) (z:=z) (fr:=fr) (k:=nm) (v:=.ref (os.length+1)) (bI (l:=zL os.length nm) h.dict) (λq=>(hz _ q).2 (by simp [idx])) (by refine np▸ ?_;simp;exact qi (bS hl) rfl);rw [np] at a6;(delta ly;with_reducible repeat' (first|apply a1|apply a1'|apply a2|apply a3|apply a5|apply a6|exact dR _ _ _|exact br|apply bt|apply bq|apply bG|apply bO|exact bb|apply bh (by decide)|exact oB|exact fe|apply fP (by decide)|exact aI|apply aO|exact bA|(apply gE;apply a4)|(apply b8;apply bX)|(apply pF;focus with_unfolding_all exact rfl)|(apply bW;focus rfl)|apply gz))
abbrev NV:=Str × Int × List Str
noncomputable def nv(x:Nd):NV:=(x.nm,x.np,x.ss)
noncomputable def pH(l:List NV)(nm:Str):List NV:=if nm∈l.map (·.1) then l else l++ [(nm,0,[])]
noncomputable def rt(nm:Str)(g:NV->NV)(l:List NV):List NV:=l.map λy=>if y.1=nm then g y else y
noncomputable def tX(nm:Str):NV->NV:=λy=>(y.1,y.2.1,y.2.2++ [nm])
noncomputable def O2(k:Int):NV->NV:=λy=>(y.1,y.2.1+k,y.2.2)
noncomputable def Cm(l:List NV)(nm:Str)(ps:List Str):List NV:=ps.foldl (λl p=>rt p (tX nm) (pH l p)) (rt nm (O2 ps.length) (pH l nm))
structure Sz(S:Sr)(k:Nat):Prop where
 dj:S.dj.length+k<=900
 ss:∀x∈S.dj,x.ss.length+k<=900
structure Lk(S S':Sr)(l:List NV):Prop where
 i:S'.i=S.i
 rd:S'.rd=S.rd
 po:S'.po=S.po
 fi:S'.fi=S.fi
 nv:S'.dj.map nv=l
theorem Sz.less(h:Sz S k)(hj:j<=k):Sz S j:=⟨by have:=h.dj;exact ai (bE hj _) this,λx hx=>by have:=h.ss x hx;exact ai (bE hj _) this⟩
section
variable{S':Sr}
theorem HM{f:Nd->Nd}{g:NV->NV}(hf:∀y,nv (f y)=g (nv y))(l:List Nd):(upd nm f l).map nv=rt nm g (l.map nv):=by
 unfold upd rt;rw [dw,dw];apply d9;intro y _;show nv (if y.nm=nm then f y else y)=if (nv y).1=nm then g (nv y) else nv y
 show nv (if y.nm=nm then f y else y)=if y.nm=nm then g (nv y) else nv y
 split
 ·exact hf y
 ·rfl
theorem FK(l:List Nd):(l.map nv).map (·.1)=l.map (·.nm):=by refine (dw).trans ?_;rfl
theorem Jm{f:Nd->Nd}{l:List Nd}{x:Nd}(hx:x∈l)(hn:x.nm=nm):f x∈upd nm f l:=aT.mpr ⟨x,hx,by exact (if_pos hn)⟩
end
abbrev Bj(z:List Nat)(os:List O)(S:Sr):Prop:=∀j∈z,j<os.length/\j∉idx S
theorem Bj.step{S':Sr}(h:Bj z os S)(f:mx os S os' S'):Bj z os' S':=λj hj=>⟨ag (h j hj).1 f.len,λhm=>(f.idx j hm).elim (h j hj).2 λq=>absurd (h j hj).1 (cD.mpr q)⟩
theorem Jn(h:gy os S)(nm:Str)(hz:Bj z os S)(hs:Sz S (k+1)):∃os' S' x,cN P aj (n+2) (.top 80) [.ref S.i,.str nm] os z=af (.ret (.ref x.info),os')/\gy os' S'/\mx os S os' S'/\Lk S S' (pH (S.dj.map nv) nm)/\Sz S' k/\x∈S'.dj/\x.nm=nm:=by
 by_cases hn:nm∈S.dj.map (·.nm)
 ·refine aR (aT.mp hn) λx hx q'1=>?_;obtain rfl:=q'1;refine ⟨os,S,x,Qx h hx,h,mx.refl,⟨rfl,rfl,rfl,rfl,?_⟩,hs.less (by exact aF _ _),hx,rfl⟩;unfold pH;rw [FK,if_pos hn]
 ·obtain ⟨h1,f1⟩:=h.Ws hn;have hb:=hs.dj;refine ⟨_,_,_,Qy h hn hz (qi (RE hb) rfl),h1,f1,⟨rfl,rfl,rfl,rfl,?_⟩,⟨by simp;exact VB hb,λx hx=>?_⟩,cI _ (fm ..),rfl⟩
  ·show (S.dj++ [_]).map nv=_;unfold pH;rw [FK,if_neg hn,cw];rfl
  ·rcases aG.mp hx with hx|hx
   ·have:=hs.ss x hx;exact bS this
   ·obtain rfl:=aL.mp hx;simp;exact eN (ai (dH _ _) hb)
theorem Nj(h:gy os S)(p:Str)(hS:getF fr "self" =af (.ref S.i))(hN:getF fr "node" =af (.str nm))(hz:Bj z os S)(hs:Sz S (k+2)):∃et os' S',pg (cy P aj (n+2)) (.str p) z ⟨fr,os⟩=af (.next,⟨et,os'⟩)/\
  getF et "self" =af (.ref S'.i)/\getF et "node" =af (.str nm)/\gy os' S'/\mx os S os' S'/\Lk S S' (rt p (tX nm) (pH (S.dj.map nv) p))/\Sz S' k:=by
 refine dy (Jn (P:=P) (aj:=aj) (n:=n) h p hz (k:=k+1) hs) λGu S_1 x c1 h1 f1 l1 s1 r'2=>?_;refine d7 r'2 λhx hxn=>?_;subst hxn;have a1:=λfr=>h.D2 (P:=P) (aj:=aj) (cQ:=cN P aj (n+2)) (DX P) noName.1 fr z ao;have a2:=λfr o=>tm (P:=P) (aj:=aj) (cQ:=cN P aj (n+2)) (z:=z) (fr:=fr) (os:=os) (o:=o) (as:=[.str x.nm]) (jc (DX P));refine cW (h1.nd x hx) λn1 n2 n3=>?_;have a3:=λfr=>vG (P:=P) (aj:=aj) (cQ:=cN P aj (n+2)) (hd:=true) (z:=z) (fr:=fr) (v:=.ref x.su) n1 n2 (M0 P).1 rfl rfl;have a4:=λfr=>k9 (c:=cy P aj (n+2)) (z:=z) (fr:=fr) n3 mJ;have hz1:=hz.step f1;have a5:=λfr=>pG (c:=cy P aj (n+2)) (z:=z) (fr:=fr) (v:=.str nm) n3 (λq=>(hz1 _ q).2 (xX hx (by simp [nE]))) (by have:=s1.ss x hx;rw [aH];exact qi (RE this) rfl);obtain ⟨h2,f2⟩:=h1.Wo hx (x.ss++ [nm]);have e5:(x.ss.map bc++ [bc nm])=(x.ss++ [nm]).map bc:=by simp
 rw [e5] at a5;refine ⟨putF (putF fr "pred" (.str x.nm)) "pred_info" (.ref x.info),_,_,?_,?_,?_,h2,f1.trans f2,⟨l1.i,l1.rd,l1.po,l1.fi,?_⟩,⟨?_,λy hy=>?_⟩⟩
 ·(delta pg;with_reducible repeat' (first|apply hS|apply hN|apply a1|apply c1|apply a3|apply a4|apply a5|exact dR _ _ _|exact br|apply bt|apply bq|apply bG|apply bO|exact aE|apply av (by decide)|apply aO|(apply gE;apply a2)|(apply b8;apply bX)|rfl))
 ·rw [b6,if_neg (by exact iK rfl),b6,if_neg (by exact iK rfl)];refine (hS).trans ?_;show _=af (iu S_1.i);exact (l1.i)▸rfl
 ·rw [b6,if_neg (by exact iK rfl),b6,if_neg (by exact iK rfl)];exact hN
 ·rw [HM (g:=λy=>(y.1,y.2.1,x.ss++ [nm])) (λy=>rfl),l1.nv];unfold rt;apply d9;intro y hy;rw [←l1.nv] at hy;refine aR (aT.mp hy) λy_0 pN q'3=>?_;obtain rfl:=q'3;show (if y_0.nm=x.nm then _ else _)=(if y_0.nm=x.nm then _ else _);split
  ·rename_i e
   obtain rfl:=vH h1.names pN hx e;rfl
  ·rfl
 ·show (upd x.nm _ S_1.dj).length+k<=900;unfold upd;rw [aH];have:=s1.dj;exact bS this
 ·refine aR (aT.mp hy) λy_0 pN q'4=>?_;obtain rfl:=q'4;have a:=s1.ss y_0 pN;have:=s1.ss x hx;split
  ·simp;exact VB this
  ·exact eN a
theorem Qz(turn:V->M Fl)(s:eP):fU turn [] z s=af (.next,s):=rfl
theorem ij{turn:V->M Fl}{r:List V}{s s':eP}(h:turn v z s=af (.next,s')):fU turn (v::r) z s=fU turn r z s':=by
 dsimp only [fU];refine (ba h).trans ?_;induction r using aC<;>rfl
theorem Nk{turn:V->M Fl}{r:List V}{s s':eP}(h:turn v z s=af (.cont,s')):fU turn (v::r) z s=fU turn r z s':=by
 dsimp only [fU];refine (ba h).trans ?_;induction r using aC<;>rfl
theorem Jo{turn:V->M Fl}{w:V}{r:List V}{s s':eP}(h:turn v z s=af (.ret w,s')):fU turn (v::r) z s=af (.ret w,s'):=by
 dsimp only [fU];refine (ba h).trans ?_;rfl
theorem Nl{s:eP}{r:Option (Src × eP)}(h:GY (cx P aj cQ ao) i z s=r):gN (cx P aj cQ ao) (.ref i) z s=r:=(show gN (cx P aj cQ ao) (.ref i) z s=GY (cx P aj cQ ao) i z s by kernel_rfl).trans h
theorem src_tuple(h:os[i]? =af (.tuple xs)):gN (cx P aj cQ ao) (.ref i) z ⟨fr,os⟩=af (⟨xs,af i⟩,⟨fr,os⟩):=Nl (ba (eC h z fr))
theorem src_list(h:os[i]? =af (.list xs)):gN (cx P aj cQ ao) (.ref i) z ⟨fr,os⟩=af (⟨xs,af i⟩,⟨fr,os⟩):=Nl (ba (eC h z fr))
theorem Nm(h:os[i]? =af (.dict es)):gN (cx P aj cQ ao) (.ref i) z ⟨fr,os⟩=af (⟨es.map λe=>.str e.1,af i⟩,⟨fr,os⟩):=Nl (ba (eC h z fr))
theorem Y3:∀(ps:List Str) {os:List O}{S:Sr}{fr:eB}{k:Nat},gy os S->getF fr "self" =af (.ref S.i)->getF fr "node" =af (.str nm)->Bj z os S->Sz S (2*ps.length+k)->∃et os' S',fU (λv=>pg (cy P aj (n+2)) v) (ps.map .str) z ⟨fr,os⟩=af (.next,⟨et,os'⟩)/\
  gy os' S'/\mx os S os' S'/\Lk S S' (ps.foldl (λl p=>rt p (tX nm) (pH l p)) (S.dj.map nv))/\Sz S' k:=by
 intro Ij;induction Ij with
 |nil=>
  intro os S fr k h hS hN hz hs;exact ⟨fr,os,S,Qz _ _,h,mx.refl,⟨rfl,rfl,rfl,rfl,rfl⟩,hs.less (by exact dH _ _)⟩
 |cons p ps ih'=>
  intro os S fr k h hS hN hz hs;refine dy (Nj (P:=P) (aj:=aj) (n:=n) h p hS hN hz (k:=2*ps.length+k) (hs.less (by simp;exact ar (aN _ _ _)))) λC7 Gu S_1 e1 U6 hN1 h1 f1 r'1=>?_;refine d7 r'1 λl1 s1=>?_;refine jV (ih' h1 U6 hN1 (hz.step f1) s1) λwu XT S_2 e2 h2 f2 l2 s2=>?_;refine ⟨wu,XT,S_2,?_,h2,f1.trans f2,⟨l2.i.trans l1.i,l2.rd.trans l1.rd,l2.po.trans l1.po,l2.fi.trans l1.fi,?_⟩,s2⟩
  ·rw [bx,ij e1];exact e2
  ·rw [l2.nv,l1.nv];rfl
theorem Y4(h:gy os S)(h0:S.rd=ae){ps:List Str}{t:Nat}(ht:os[t]? =af (.tuple (ps.map .str)))(XU:t∉idx S)(hz:Bj z os S)(hs:Sz S (2*ps.length+k+1)):∃et os' S',xQ (cy P aj (n+2)) z ⟨[("self",.ref S.i),("node",.str nm),("predecessors",.ref t)],os⟩=af (.next,⟨et,os'⟩)/\
  gy os' S'/\mx os S os' S'/\Lk S S' (Cm (S.dj.map nv) nm ps)/\Sz S' k:=by
 have a0:=λfr=>(h.attr (P:=P) (aj:=aj) (cQ:=cN P aj (n+2)) fr z ao).2.1;rw [h0] at a0;refine dy (Jn (P:=P) (aj:=aj) (n:=n) h nm hz (k:=2*ps.length+k) hs) λGu S_1 x c1 h1 f1 l1 s1 r'2=>?_;refine d7 r'2 λhx hxn=>?_;subst hxn;have hz1:=hz.step f1;have a1:=λfr=>h.D2 (P:=P) (aj:=aj) (cQ:=cN P aj (n+2)) (DX P) noName.1 fr z ao;have a2:=λfr o=>tm (P:=P) (aj:=aj) (cQ:=cN P aj (n+2)) (z:=z) (fr:=fr) (os:=os) (o:=o) (as:=[.str x.nm]) (jc (DX P));refine cW (h1.nd x hx) λn1 n2 n3=>?_;have ht1:Gu[t]? =af (.tuple (ps.map .str)):=(f1.keep t (aY ht) XU).trans ht;have XW:t∉idx S_1:=λq=>(f1.idx t q).elim XU λq=>absurd (aY ht) (cD.mpr q);have a3:=λfr=>vG (P:=P) (aj:=aj) (cQ:=cN P aj (n+2)) (hd:=true) (z:=z) (fr:=fr) (v:=.int x.np) n1 n2 (FF P).1 rfl rfl;have a4:=λfr=>Jl (P:=P) (aj:=aj) (cQ:=cN P aj (n+2)) (z:=z) (fr:=fr) (.inr ht1);have a5:=λfr=>wV (P:=P) (aj:=aj) (cQ:=cN P aj (n+2)) (hd:=true) (z:=z) (fr:=fr) (v:=.int (x.np+((ps.map bc).length:Nat))) n1 n2 (FF P).1 (FF P).2 (by exact iK rfl) (by decide) (λq=>(hz1 _ q).2 (xX hx (by exact fm)));have e5:(O.slots 40 x.dd ([af (.str x.nm),af (.int x.np),af (.ref x.su),ae,ae].set 1 (af (.int (x.np+((ps.map bc).length:Nat))))))=ED {x with np:=x.np+((ps.map bc).length:Nat)}:=rfl;rw [e5] at a5;obtain ⟨h2,f2⟩:=h1.Jf hx (x.np+((ps.map bc).length:Nat));have hz2:=hz1.step f2;have Xo:(Gu.set x.info (ED {x with np:=x.np+((ps.map bc).length:Nat)}))[t]? =af (.tuple (ps.map .str)):=(f2.keep t (aY ht1) XW).trans ht1;have ZW:t∉idx {S_1 with dj:=upd x.nm (λy=>{y with np:=x.np+((ps.map bc).length:Nat)}) S_1.dj}:=λq=>(f2.idx t q).elim XW λq=>absurd (aY ht1) (cD.mpr q);have s2:Sz {S_1 with dj:=upd x.nm (λy=>{y with np:=x.np+((ps.map bc).length:Nat)}) S_1.dj} (2*ps.length+k):=⟨by have:=s1.dj;unfold upd;simp only [aH];exact this,λy hy=>by
  refine aR (aT.mp hy) λy_0 pN q'3=>?_;obtain rfl:=q'3;have:=s1.ss y_0 pN;split<;>exact this⟩
 have a6:=λfr=>src_tuple (aj:=aj) (P:=P) (cQ:=cN P aj (n+2)) (z:=z) (fr:=fr) Xo;refine jV (Y3 (P:=P) (aj:=aj) (n:=n) (z:=t::z) (nm:=x.nm) ps (fr:=[(ah "self",.ref S.i),(ah "node",.str x.nm),(ah "predecessors",.ref t),(ah "nodeinfo",.ref x.info)]) h2 (by simp only [getF,if_true];show af (iu S.i)=af (iu S_1.i);exact (l1.i)▸rfl) (by rfl) (λj hj=>by
  rcases jJ hj with rfl|hj
  ·exact ⟨aY Xo,ZW⟩
  ·exact hz2 j hj) s2) λSx Sy S_3 e3 h3 f3 l3 s3=>?_
 have ZX:dk (af t) (fU (λv=>pg (cy P aj (n+2)) v) (ps.map bc)) z ⟨[("self",.ref S.i),("node",.str x.nm),("predecessors",.ref t),("nodeinfo",.ref x.info)],Gu.set x.info (ED {x with np:=x.np+((ps.map bc).length:Nat)})⟩=af (.next,⟨Sx,Sy⟩):=e3;refine ⟨Sx,Sy,S_3,?_,h3,(f1.trans f2).trans f3,⟨l3.i.trans l1.i,l3.rd.trans l1.rd,l3.po.trans l1.po,l3.fi.trans l1.fi,?_⟩,s3⟩
 ·(delta xQ;with_reducible repeat' (first|apply a0|apply a1|apply c1|apply a3|apply a4|apply a5|apply a6|apply ZX|exact dR _ _ _|exact br|apply bt|apply bq|apply bG|apply bO|exact bb|apply bh (by decide)|exact fe|apply fP (by decide)|exact aI|exact DZ|apply aO|(apply gE;apply a2)|(apply rQ;focus with_unfolding_all exact rfl)|(apply ite_no;focus decide)))
 ·refine (l3.nv).trans ?_;show pT _ ((upd x.nm _ S_1.dj).map nv) ps=_;rw [HM (g:=λy=>(y.1,x.np+((ps.map bc).length:Nat),y.2.2)) (λy=>rfl),l1.nv];unfold Cm;congr 1;unfold rt;apply d9;intro y hy;rw [←l1.nv] at hy;refine aR (aT.mp hy) λy_0 pN q'4=>?_;obtain rfl:=q'4;show (if y_0.nm=x.nm then _ else _)=(if y_0.nm=x.nm then _ else _);split
  ·rename_i e
   obtain rfl:=vH h1.names pN hx e;dsimp only [O2,nv];rw [aH]
  ·rfl
structure Sk where
 x:Nd
 k:Nat
 q:Nat
 i:Nat
noncomputable def stkL(g:Sk->α):List Sk->List α
 | []=>[]
 |f::r=>stkL g r++ [g f]
noncomputable def mK:List Sk->List (Str × V)
 | []=>[]
 |f::r=>mK r++ [(f.x.nm,.int r.length)]
noncomputable def Bk(f:Sk):List Nat:=[f.q,f.i]
structure Ix where
 st:Nat
 u0:Nat
 se:Nat
 ns:Nat
noncomputable def u3(I:Ix)(fD:List Sk):List Nat:=I.st::I.u0::I.se::I.ns::fD.flatMap Bk
structure Fc(b:Nat)(os:List O)(S:Sr)(I:Ix)(fD:List Sk)(seen:List Str):Prop where
 Nn:gy os S
 low:∀j∈idx S,j<b
 st:os[I.st]? =af (.list (stkL (λf=>.str f.x.nm) fD))
 u0:os[I.u0]? =af (.list (stkL (λf=>.ref f.q) fD))
 se:os[I.se]? =af (.set seen)
 ns:os[I.ns]? =af (.dict (mK fD))
 fr:∀f∈fD,f.x∈S.dj/\os[f.q]? =af (.next f.i)/\os[f.i]? =af (.kP f.x.su f.k)
 nodup:(u3 I fD).Nodup
 high:∀j∈u3 I fD,b<=j
 names:(fD.map (·.x.nm)).Nodup
section
variable{I:Ix}{fD:List Sk}
theorem gQ(g:Sk->α):∀fD:List Sk,(stkL g fD).length=fD.length
 | []=>rfl
 |f::r=>by simp [stkL,gQ g r]
theorem u4:∀fD:List Sk,(mK fD).length=fD.length
 | []=>rfl
 |f::r=>by simp [mK,u4 r]
theorem rR:∀fD:List Sk,(mK fD).map (·.1)=stkL (λf=>f.x.nm) fD
 | []=>rfl
 |f::r=>by simp [mK,stkL,rR r]
theorem pI:∀{fD:List Sk},nm∈stkL (λf=>f.x.nm) fD↔nm∈fD.map (·.x.nm)
 | []=>by rfl
 |f::r=>by simp only [stkL,aG,pI (fD:=r),aL,bx,aZ,de,or_false];exact Or.comm
theorem Fc.ne(h:Fc b os S I fD seen):I.st≠I.u0/\I.st≠I.se/\I.st≠I.ns/\I.u0≠I.se/\I.u0≠I.ns/\I.se≠I.ns/\(∀f∈fD,∀j∈Bk f,j≠I.st/\j≠I.u0/\j≠I.se/\j≠I.ns):=by
 have:=h.nodup;simp only [u3,bu,aZ,not_or] at this;refine iJ this λq'1 q'2 q'3 XX Yy=>?_;obtain ⟨a1,a2,a3,a4⟩:=q'1;obtain ⟨a5,a6,a7⟩:=q'2;obtain ⟨a8,a9⟩:=q'3;refine ⟨a1,a2,a3,a5,a6,a8,λf hf j hj=>?_⟩;have hm:j∈fD.flatMap Bk:=cJ.mpr ⟨f,hf,hj⟩;exact ⟨λq=>a4 (q▸hm),λq=>a7 (q▸hm),λq=>a9 (q▸hm),λq=>XX (q▸hm)⟩
theorem Fc.ru(h:Fc b os S I fD seen)(hj:b<=j)(x:O)(h':gy os' S):gy (os'.set j x) S:=h'.other (λq=>absurd (h.low j q) (cD.mpr hj)) x
theorem D6{f g:Sk}:∀{l:List Sk},(l.flatMap Bk).Nodup->(l.map (·.x.nm)).Nodup->f∈l->g∈l->f.x.nm≠g.x.nm->∀a∈Bk f,a∉Bk g
 |b::r,hl,hn,hx,hy,hne,a,ha,hb=>by
  rw [bz,bo] at hl;rw [bx,bu] at hn;rcases jJ hx with qk|qk<;>rcases jJ hy with hy1|hy1
  ·exact hne (by rw [qk,hy1])
  ·exact hl.2.2 a (qk▸ha) a (cJ.mpr ⟨g,hy1,hb⟩) rfl
  ·exact hl.2.2 a (hy1▸hb) a (cJ.mpr ⟨f,qk,ha⟩) rfl
  ·exact D6 hl.2.1 hn.2 qk hy1 hne a ha hb
theorem Fc.flat(h:Fc b os S I fD seen):(fD.flatMap Bk).Nodup:=by
 have:=h.nodup;simp only [u3,bu] at this;exact this.2.2.2.2
end
theorem Np{k:Str}(hk:k∉es.map (·.1)):B6 (es++ [(k,v)]) k=es:=by
 unfold B6;rw [qb];have h1:es.filter (λe=>decide (e.1≠k))=es:=v8.mpr λe he=>decide_eq_true λq=>hk (aT.mpr ⟨e,he,q⟩);rw [h1];simp
theorem K1{k:Str}(hk:k∉es.map (·.1)):lookE (es++ [(k,v)]) k=af v:=by
 induction es with
 |nil=>simp [lookE]
 |cons e r ih=>
  simp only [bx,aZ,not_or] at hk;refine e9▸ ?_;dsimp only [lookE];refine (if_neg (λq=>hk.1 q.symm)).trans ?_;exact ih hk.2
theorem Uk{k:Str}(h:os[i]? =af (.dict es))(hk:(lookE es k).isSome=ao)(hz:i∉z)(hs:es.length<=1000000):xA c (.ref i) (.str k) z ⟨fr,os⟩=af ((),⟨fr,os.set i (.dict (B6 es k))⟩):=by
 refine (ba (eC h z fr)).trans ((Bd hk z _).trans (lQ (o:=.dict (B6 es k)) h (decide_eq_true ?_) hz fr));unfold B6;exact ai (cK ..) hs
theorem Bl(h:os[i]? =af (.list (xs++ [v]))):d8 c (.ref i) (.int (-1)) z ⟨fr,os⟩=af (v,⟨fr,os⟩):=by
 have hp:qT (-1) (xs++ [v]).length=af xs.length:=by
  unfold qT;refine (if_pos (by decide)).trans ?_;unfold oU;simp only [aq,aU,gF];first|(simp;done)|(simp;exact by rw [m1q];exact ⟨⟨d0 _,Int.lt_succ _⟩,md _⟩)|skip
 refine (ba (eC h z fr)).trans (fj ?_ z _);rw [hp,ct,bT (ax _),me];rfl
theorem Nq(h:os[i]? =af (.list xs)):cP c (.ref i) z ⟨fr,os⟩=af (!xs.isEmpty,⟨fr,os⟩):=ba (eC h z fr)
noncomputable def Bm:List Sk->Option (Str × List Sk)
 | []=>ae
 |f::r=>match f.x.ss[f.k]? with
  |some y=>af (y,{f with k:=f.k+1}::r)
  |none=>Bm r
structure HN(fr:eB)(S:Sr)(I:Ix):Prop where
 hV:getF fr "n2i" =af (.ref S.hV)
 st:getF fr "stack" =af (.ref I.st)
 u0:getF fr "itstack" =af (.ref I.u0)
 se:getF fr "seen" =af (.ref I.se)
 ns:getF fr "node2stacki" =af (.ref I.ns)
theorem HN.put{I:Ix}(h:HN fr S I)(v:V):HN (putF fr "node" v) S I:=by
 refine ⟨?_,?_,?_,?_,?_⟩
 ·rw [b6,if_neg (by exact iK rfl)];exact h.hV
 ·rw [b6,if_neg (by exact iK rfl)];exact h.st
 ·rw [b6,if_neg (by exact iK rfl)];exact h.u0
 ·rw [b6,if_neg (by exact iK rfl)];exact h.se
 ·rw [b6,if_neg (by exact iK rfl)];exact h.ns
structure Hi(b:Nat)(os os':List O):Prop where
 len:os.length<=os'.length
 keep:∀j,j<b->os'[j]? =os[j]?
theorem Hi.refl:Hi b os os:=⟨ax _,λ_ _=>rfl⟩
theorem Hi.trans{Ew:List O}(x:Hi b os os')(y:Hi b os' Ew):Hi b os Ew:=⟨ai x.len y.len,λj h=>(y.keep j h).trans (x.keep j h)⟩
theorem Hi.set(h:b<=j)(x:O):Hi b os (os.set j x):=⟨by simp,λi hi=>bH (by exact eM (ag hi h))⟩
theorem Hi.grow(h:b<=os.length)(l:List O):Hi b os (os++l):=⟨by simp,λi hi=>aJ (by exact ai hi h)⟩
section
variable{I:Ix}{fD:List Sk}
theorem Jp{f:Sk}{r:List Sk}:I.st∈u3 I (f::r)/\I.u0∈u3 I (f::r)/\I.se∈u3 I (f::r)/\I.ns∈u3 I (f::r)/\f.q∈u3 I (f::r)/\f.i∈u3 I (f::r):=by
 simp [u3,Bk]
theorem Nr{f:Sk}{r:List Sk}(h:Fc b os S I (f::r) seen)(F:HN fr S I)(hz:∀j∈z,j<b)(hy:f.x.ss[f.k]? =af y):fV (cx P aj cQ ao) (cx P aj cQ bf) z ⟨fr,os⟩=af (.brk,⟨putF fr "node" (.str y),os.set f.i (.kP f.x.su (f.k+1))⟩)/\
  Fc b (os.set f.i (.kP f.x.su (f.k+1))) S I ({f with k:=f.k+1}::r) seen/\Hi b os (os.set f.i (.kP f.x.su (f.k+1))):=by
 refine cW (h.fr f (fm ..)) λhx hq hi=>?_;refine cW (h.Nn.nd f.x hx) λn1 n2 n3=>?_;refine iQ (Jp (I:=I) (f:=f) (r:=r)) λm1 m2 m3 m4 m5 m6=>?_;have hz':∀j∈u3 I (f::r),j∉z:=λj hj q=>absurd (hz j q) (cD.mpr (h.high j hj));have a1:=λfr=>Bl (c:=cx P aj cQ ao) (z:=z) (fr:=fr) h.u0;have o1:=λfr=>eC (c:=cx P aj cQ ao) hq z fr;have o2:=λfr=>eC (c:=cx P aj cQ ao) hi z fr;have o3:=λfr=>eC (c:=cx P aj cQ ao) n3 z fr;have a2:=λfr=>lQ (o:=.kP f.x.su (f.k+1)) hi rfl (hz' _ m6) fr;have hg:(f.x.ss.map bc)[f.k]? =af (.str y):=by rw [ei,hy];rfl
 refine iQ h.ne λ_ _ _ _ _ r'1=>?_;refine d7 r'1 λ_ ne=>?_;have Ry:=ne f (fm ..) f.i (by simp [Bk]);have flat:=h.flat;have fq:f.q≠f.i:=by
  rw [bz,bo] at flat;have:=flat.1;simp only [Bk,bu,aL] at this;exact this.1
 have hnm:=h.names;refine ⟨?_,⟨h.ru (h.high _ m6) _ h.Nn,h.low,bC h.st Ry.1,bC h.u0 Ry.2.1,bC h.se Ry.2.2.1,bC h.ns Ry.2.2.2,λg hg'=>?_,h.nodup,h.high,h.names⟩,Hi.set (h.high _ m6) _⟩
 ·(delta fV pj;with_reducible repeat' (first|apply a1|apply Qo hq hi n3 hg|apply a2|exact br|exact Bh|apply bt|apply bq|apply bG F.u0|apply bO rfl|exact Bf|with_unfolding_all rfl))
 ·rcases jJ hg' with rfl|hg'
  ·exact ⟨hx,bC hq (λq=>fq q.symm),dA hi⟩
  ·refine cW (h.fr g (i8 _ hg')) λk1 k2 k3=>?_;have hne:f.x.nm≠g.x.nm:=λq=>by
    rw [bx,bu] at hnm;exact hnm.1 (aT.mpr ⟨g,hg',q.symm⟩)
   have ap:=D6 flat hnm (fm ..) (i8 _ hg') hne f.i (by simp [Bk]);simp only [Bk,aZ,de,or_false,not_or] at ap;exact ⟨k1,bC k2 ap.1,bC k3 ap.2⟩
theorem FL{f:Sk}{r:List Sk}(h:Fc b os S I (f::r) seen)(F:HN fr S I)(hz:∀j∈z,j<b)(hy:f.x.ss[f.k]? =ae)(hl:(f::r).length<=1000):∃os',fV (cx P aj cQ ao) (cx P aj cQ bf) z ⟨fr,os⟩=af (.next,⟨fr,os'⟩)/\Fc b os' S I r seen/\Hi b os os':=by
 refine cW (h.fr f (fm ..)) λhx hq hi=>?_;refine cW (h.Nn.nd f.x hx) λn1 n2 n3=>?_;refine iQ (Jp (I:=I) (f:=f) (r:=r)) λm1 m2 m3 m4 m5 m6=>?_;have hz':∀j∈u3 I (f::r),j∉z:=λj hj q=>absurd (hz j q) (cD.mpr (h.high j hj));refine iQ h.ne λe1 e2 e3 e4 e5 r'2=>?_;refine d7 r'2 λe6 ne=>?_;have Ry:=ne f (fm ..) f.i (by simp [Bk]);simp only [aU] at hl;have a1:=λfr=>Bl (c:=cx P aj cQ ao) (z:=z) (fr:=fr) h.u0;have o1:=λfr=>eC (c:=cx P aj cQ ao) hq z fr;have o2:=λfr=>eC (c:=cx P aj cQ ao) hi z fr;have o3:=λfr=>eC (c:=cx P aj cQ ao) n3 z fr;have a2:=λfr=>lQ (o:=.dead) hi rfl (hz' _ m6) fr;have hg:(f.x.ss.map bc)[f.k]? =ae:=by rw [ei,hy];rfl
 have st1:(os.set f.i .dead)[I.st]? =af (.list (stkL (λf=>bc f.x.nm) r++ [.str f.x.nm])):=bC h.st Ry.1;have ZY:(os.set f.i .dead)[I.ns]? =af (.dict (mK (f::r))):=bC h.ns Ry.2.2.2;have Rz:(os.set f.i .dead)[I.u0]? =af (.list (stkL (λf=>iu f.q) r++ [.ref f.q])):=bC h.u0 Ry.2.1;have OP:f.x.nm∉(mK r).map (·.1):=by
  rw [rR,pI];have:=h.names;rw [bx,bu] at this;exact this.1
 have b1:=λfr=>k9 (c:=cx P aj cQ bf) (z:=z) (fr:=fr) st1 M7;have b2:=λfr=>R5 (c:=cx P aj cQ bf) (z:=z) (fr:=fr) st1 (hz' _ m1) (by rw [gQ];exact qi (eN hl) rfl);have ns2:((os.set f.i .dead).set I.st (.list (stkL (λf=>bc f.x.nm) r)))[I.ns]? =af (.dict (mK (f::r))):=bC ZY e3;have b3:=λfr=>Uk (c:=cx P aj cQ bf) (z:=z) (fr:=fr) (k:=f.x.nm) ns2 (by show (lookE (mK r++ [_]) _).isSome=ao;refine (K1 OP)▸ ?_;rfl) (hz' _ m4) (by rw [u4];simp;exact qi (eN hl) rfl);have e7:B6 (mK (f::r)) f.x.nm=mK r:=Np OP;rw [e7] at b3;have U7:(((os.set f.i .dead).set I.st (.list (stkL (λf=>bc f.x.nm) r))).set I.ns (.dict (mK r)))[I.u0]? =af (.list (stkL (λf=>iu f.q) r++ [.ref f.q])):=bC (bC Rz e1) (λq=>e5 q.symm);have b4:=λfr=>k9 (c:=cx P aj cQ bf) (z:=z) (fr:=fr) U7 M7;have b5:=λfr=>R5 (c:=cx P aj cQ bf) (z:=z) (fr:=fr) U7 (hz' _ m2) (by rw [gQ];exact qi (eN hl) rfl);have sub:∀j∈u3 I r,j∈u3 I (f::r):=λj hj=>by
  simp only [u3,aZ,bz,aG] at hj ⊢;rcases hj with q|q|q|q|q
  ·exact .inl q
  ·exact .inr (.inl q)
  ·exact .inr (.inr (.inl q))
  ·exact .inr (.inr (.inr (.inl q)))
  ·exact .inr (.inr (.inr (.inr (.inr q))))
 have flat:=h.flat;have hnm:=h.names;refine ⟨(((os.set f.i .dead).set I.st (.list (stkL (λf=>bc f.x.nm) r))).set I.ns (.dict (mK r))).set I.u0 (.list (stkL (λf=>iu f.q) r)),?_,⟨h.ru (h.high _ m2) _ (h.ru (h.high _ m4) _ (h.ru (h.high _ m1) _ (h.ru (h.high _ m6) _ h.Nn))),h.low,?_,?_,?_,?_,λg hg'=>?_,?_,λj hj=>h.high j (sub j hj),?_⟩,(((Hi.set (h.high _ m6) _).trans (Hi.set (h.high _ m1) _)).trans (Hi.set (h.high _ m4) _)).trans (Hi.set (h.high _ m2) _)⟩
 ·(delta fV pk;with_reducible repeat' (first|apply a1|apply Qp hq hi n3 hg|apply a2|apply b1|apply b2|apply b3|apply b4|apply b5|exact br|exact Bh|apply bt|apply bq|apply bG F.u0|apply bG F.st|apply bG F.ns|apply bO rfl|apply aO|(apply b8;apply KU)|with_unfolding_all rfl))
 ·exact bC (bC (dA st1) (λq=>e3 q.symm)) (λq=>e1 q.symm)
 ·exact dA U7
 ·exact bC (bC (bC (bC h.se Ry.2.2.1) e2) (λq=>e6 q.symm)) e4
 ·exact bC (dA ns2) e5
 ·refine cW (h.fr g (i8 _ hg')) λk1 k2 k3=>?_;have hne:f.x.nm≠g.x.nm:=λq=>by
   rw [bx,bu] at hnm;exact hnm.1 (aT.mpr ⟨g,hg',q.symm⟩)
  have ap:=D6 flat hnm (fm ..) (i8 _ hg') hne f.i (by simp [Bk]);simp only [Bk,aZ,de,or_false,not_or] at ap;have g1:=ne g (i8 _ hg') g.q (by exact fm);have g2:=ne g (i8 _ hg') g.i (by simp [Bk]);exact ⟨k1,bC (bC (bC (bC k2 ap.1) (λq=>g1.1 q.symm)) (λq=>g1.2.2.2 q.symm)) (λq=>g1.2.1 q.symm),bC (bC (bC (bC k3 ap.2) (λq=>g2.1 q.symm)) (λq=>g2.2.2.2 q.symm)) (λq=>g2.2.1 q.symm)⟩
 ·have:=h.nodup;simp only [u3,bu,aZ,bz,aG,not_or,bo] at this ⊢;refine iJ this λq'3 q'4 q'5 XX Yy=>?_;obtain ⟨a1,a2,a3,a4⟩:=q'3;obtain ⟨a5,a6,a7⟩:=q'4;obtain ⟨a8,a9⟩:=q'5;exact ⟨⟨a1,a2,a3,a4.2⟩,⟨a5,a6,a7.2⟩,⟨a8,a9.2⟩,XX.2,Yy.2.1⟩
 ·rw [bx,bu] at hnm;exact hnm.2
end
section
variable{I:Ix}{fD:List Sk}
theorem D7{xs:List Str}{k:Str}(h:os[i]? =af (.set xs)):Pg c (.str k) (.ref i) z ⟨fr,os⟩=af (decide (k∈xs),⟨fr,os⟩):=ba (eC h z fr)
theorem in_dict{k:Str}(h:os[i]? =af (.dict es)):Pg c (.str k) (.ref i) z ⟨fr,os⟩=af ((lookE es k).isSome,⟨fr,os⟩):=ba (eC h z fr)
section
variable{test:M Bool}{body orelse:M Fl}{s s' s'':eP}
theorem x4(ht:test z s=af (ao,s'))(hb:body z s'=af (.next,s'')):hU test body orelse (n+1) z s=hU test body orelse n z s'':=by
 conv=>lhs;dsimp only [hU]
 rw [ba ht,if_pos rfl,ba hb]
theorem HO(ht:test z s=af (ao,s'))(hb:body z s'=af (.brk,s'')):hU test body orelse (n+1) z s=af (.next,s''):=by
 conv=>lhs;dsimp only [hU]
 rw [ba ht,if_pos rfl,ba hb];rfl
theorem Ul(ht:test z s=af (ao,s'))(hb:body z s'=af (.ret v,s'')):hU test body orelse (n+1) z s=af (.ret v,s''):=by
 conv=>lhs;dsimp only [hU]
 rw [ba ht,if_pos rfl,ba hb];rfl
theorem HP(ht:test z s=af (bf,s')){f:Fl}(ho:orelse z s'=af (f,s''))(hf:AE f z s''=af (f,s'')):hU test body orelse (n+1) z s=af (f,s''):=by
 conv=>lhs;dsimp only [hU]
 rw [ba ht,if_neg (by simp),ba ho];exact hf
end
theorem HQ(g:Sk->α):(stkL g fD).isEmpty=fD.isEmpty:=by
 induction fD using aC with
 |nil=>rfl
 |cons f r=>simp [stkL]
theorem Bo(h:Fc b os S I fD seen)(F:HN fr S I):ja (cx P aj cQ ao) z ⟨fr,os⟩=af (!fD.isEmpty,⟨fr,os⟩):=by
 have:=λfr=>Nq (c:=cx P aj cQ ao) (z:=z) (fr:=fr) h.st;(delta ja;with_reducible repeat' (first|apply F.st|apply bq|apply bG|(simp only [yY,F.st,cU,this,HQ];done)))
abbrev K2(P:eR)(aj:List (bk × O))(cQ:zI)(n:Nat):M Fl:=hU (ja (cx P aj cQ ao)) (fV (cx P aj cQ ao) (cx P aj cQ bf)) (seqM (aA Fl.brk) (aA bp)) n
theorem Bp{Gv:List Sk}:∀{fD:List Sk}{n:Nat}{os:List O},Bm fD=af (y,Gv)->fD.length<=1000->fD.length<=n->Fc b os S I fD seen->HN fr S I->(∀j∈z,j<b)->∃os',K2 P aj cQ n z ⟨fr,os⟩=af (.next,⟨putF fr "node" (.str y),os'⟩)/\Fc b os' S I Gv seen/\Hi b os os'
 | [],n,os,hp,_,_,_,_,_=>by trivial
 |f::r,0,os,hp,_,hn,_,_,_=>by simp at hn
 |f::r,n+1,os,hp,hl,hn,h,F,hz=>by
  have ht:=Bo (P:=P) (aj:=aj) (cQ:=cQ) (z:=z) h F;dsimp only [Bm] at hp;induction hy:f.x.ss[f.k]? using aw with
  |some w=>
   rw [hy] at hp;simp only [gD,Cw] at hp;obtain ⟨e1,e2⟩:=hp;subst e1 e2;refine cW (Nr (P:=P) (aj:=aj) (cQ:=cQ) h F hz hy) λq1 q2 q3=>?_;exact ⟨_,HO ht q1,q2,q3⟩
  |none=>
   rw [hy] at hp;refine cO (FL (P:=P) (aj:=aj) (cQ:=cQ) h F hz hy hl) λc9 q1 q2 q3=>?_;simp only [aU] at hl hn;refine cO (Bp (n:=n) hp (by exact bS hl) (by exact dF hn) q2 F hz) λdc r1 r2 r3=>?_;exact ⟨dc,(x4 ht q1).trans r1,r2,q3.trans r3⟩
theorem Bq:∀{fD:List Sk}{n:Nat}{os:List O},Bm fD=ae->fD.length<=1000->fD.length<n->Fc b os S I fD seen->HN fr S I->(∀j∈z,j<b)->∃os',K2 P aj cQ n z ⟨fr,os⟩=af (.brk,⟨fr,os'⟩)/\Fc b os' S I [] seen/\Hi b os os'
 |_,0,os,hp,_,hn,_,_,_=>by simp at hn
 | [],n+1,os,hp,hl,hn,h,F,hz=>by
  have ht:=Bo (P:=P) (aj:=aj) (cQ:=cQ) (z:=z) h F;exact ⟨os,HP ht rfl rfl,h,Hi.refl⟩
 |f::r,n+1,os,hp,hl,hn,h,F,hz=>by
  have ht:=Bo (P:=P) (aj:=aj) (cQ:=cQ) (z:=z) h F;dsimp only [Bm] at hp;induction hy:f.x.ss[f.k]? using aw with
  |some w=>rw [hy] at hp;trivial
  |none=>
   rw [hy] at hp;refine cO (FL (P:=P) (aj:=aj) (cQ:=cQ) h F hz hy hl) λc9 q1 q2 q3=>?_;simp only [aU] at hl hn;refine cO (Bq (n:=n) hp (by exact bS hl) (by exact dF hn) q2 F hz) λdc r1 r2 r3=>?_;exact ⟨dc,(x4 ht q1).trans r1,r2,q3.trans r3⟩
end
theorem CY(l r:List (Str × V))(k:Str):lookE (l++r) k=(lookE l k).or (lookE r k):=by
 induction l with
 |nil=>simp [lookE]
 |cons e l ih=>
  obtain ⟨a,v⟩:=e;show (if a=k then af v else lookE (l++r) k)=Option.or (if a=k then af v else lookE l k) (lookE r k);split
  ·rfl
  ·exact ih
theorem Br{l:List (Str × V)}{k:Str}:(lookE l k).isSome=ao↔k∈l.map (·.1):=by
 induction l with
 |nil=>exact iK rfl
 |cons e l ih=>
  dsimp only [lookE];split
  ·rename_i q;simp [q]
  ·rename_i q
   simp only [bx,aZ,ih];exact ⟨.inr,λh=>h.elim (λe=>absurd e.symm q) id⟩
theorem FN{l:List (Str × V)}{k:Str}(h:k∉l.map (·.1)):jY l k v=l++ [(k,v)]:=by
 dsimp only [jY];rw [if_neg];intro q;rw [iX] at q;refine aR q λe he q=>?_;exact h (aT.mpr ⟨e,he,iK q⟩)
theorem x5(n j:Nat):kJ n (j:Int)=min j n:=by
 unfold kJ;rw [if_neg (mO.mpr (d0 _))];exact (yv j n).elim (λq=>by rw [z5 (jd.mpr q),jy q,sF (d0 _)];rfl) λq=>by rw [Int.min_eq_right (jd.mpr q),sG q,sF (d0 _)];rfl
theorem rS{a b s:V}{ys:List V}(ho:∀fr,eu c o z ⟨fr,os⟩=af (.list xs,⟨fr,os⟩))(hs:sS xs a b s=af ys)(hl:ys.length<=1000000):lu c o a b s z ⟨fr,os⟩=af (.ref os.length,⟨fr,os++ [.list ys]⟩):=(ba (ho fr)).trans ((ba (fj hs z _)).trans (dQ (o:=.list ys) (decide_eq_true hl) z fr os))
theorem x6{a b:V}{lo hi:Option Int}(ha:CB a=af lo)(hb:CB b=af hi):sS xs a b .none=af ((xs.drop (lo.elim 0 (kJ xs.length))).take (hi.elim xs.length (kJ xs.length)-lo.elim 0 (kJ xs.length))):=by
 delta sS;rw [ha,hb];rfl
theorem Ww(xs:List V)(j:Nat):sS xs .none (.int j) .none=af (xs.take j):=by
 refine (x6 rfl rfl).trans ?_;show af ((xs.drop 0).take (kJ xs.length (j:Nat)-0))=_;rw [x5,pQ,Nat.sub_zero];congr 1;by_cases h:j<=xs.length
 ·rw [jy h]
 ·rw [sG (mU h),mf (ax _),mf (mU h)]
theorem D8(xs:List V)(j:Nat):sS xs (.int j) .none .none=af (xs.drop j):=by
 refine (x6 rfl rfl).trans ?_;show af ((xs.drop (kJ xs.length (j:Nat))).take (xs.length-kJ xs.length (j:Nat)))=_;rw [x5];congr 1;by_cases h:j<=xs.length
 ·rw [jy h,mf (by simp)]
 ·rw [sG (mU h),fI (ax _),fI (mU h),List.take_nil]
theorem Nt(xs:List V)(h:i<=j)(hj:j<=xs.length):sS xs (.int i) (.int j) .none=af ((xs.drop i).take (j-i)):=by
 refine (x6 rfl rfl).trans ?_;show af ((xs.drop (kJ xs.length (i:Nat))).take (kJ xs.length (j:Nat)-kJ xs.length (i:Nat)))=_;rw [x5,x5,jy hj,jy (ai h hj)]
noncomputable def pJ(l:List Str)(y:Str):List Str:=l.dropWhile (λa=>decide (a≠y))++ [y]
theorem R6:∀{l r:List Str},y∈l->(l++r).dropWhile (λa=>decide (a≠y))=l.dropWhile (λa=>decide (a≠y))++r
 |a::l,r,h=>by
  rw [e9,kL,kL];by_cases q:a=y
  ·simp [q]
  ·have:y∈l:=by
    rcases jJ h with e|e
    ·exact absurd e.symm q
    ·exact e
   simp only [ne_eq,q,not_false_eq_true,decide_true,if_true];exact R6 this
theorem Nu:∀{l r:List Str},y∉l->(l++r).dropWhile (λa=>decide (a≠y))=r.dropWhile (λa=>decide (a≠y))
 | [],r,h=>rfl
 |a::l,r,h=>by
  simp only [aZ,not_or] at h;rw [e9,kL];have q:a≠y:=λe=>h.1 e.symm;simp only [ne_eq,q,not_false_eq_true,decide_true,if_true];exact Nu h.2
theorem Jq:∀{fD:List Sk},y∈fD.map (·.x.nm)->∃k:Nat,lookE (mK fD) y=af (.int k)/\k<fD.length/\(stkL (λf=>f.x.nm) fD).drop k=(stkL (λf=>f.x.nm) fD).dropWhile (λa=>decide (a≠y))
 | [],h=>by simp at h
 |f::r,h=>by
  by_cases hr:y∈r.map (·.x.nm)
  ·refine cO (Jq hr) λk h1 h2 h3=>?_;refine ⟨k,?_,?_,?_⟩
   ·show lookE (mK r++_) y=_;rw [CY,h1];rfl
   ·simp only [aU];exact ix h2
   ·show (stkL _ r++_).drop k=(stkL _ r++_).dropWhile _;rw [R6 (pI.mpr hr),i7 (by rw [gQ];exact bS h2),h3]
  ·have e:f.x.nm=y:=by
    rw [bx,aZ] at h;exact (h.resolve_right hr).symm
   refine ⟨r.length,?_,?_,?_⟩
   ·show lookE (mK r++_) y=_;have:lookE (mK r) y=ae:=by
     induction q:lookE (mK r) y using aw with
     |none=>rfl
     |some v=>
      have:=Br.mp (show (lookE (mK r) y).isSome=ao by refine q▸ ?_;rfl);rw [rR,pI] at this;exact absurd this hr
    rw [CY,this];simp [lookE,e]
   ·exact ax _
   ·show (stkL _ r++_).drop _=(stkL _ r++_).dropWhile _;rw [Nu (λq=>hr (pI.mp q)),i7 (by rw [gQ];exact ax _),fI (by rw [gQ];exact ax _)];simp [e]
theorem FO(g:Sk->α)(k:α->β):∀fD:List Sk,stkL (λf=>k (g f)) fD=(stkL g fD).map k
 | []=>rfl
 |f::r=>by simp [stkL,FO g k r]
section
variable{I:Ix}{fD:List Sk}
theorem FP(h:Fc b os S I fD seen)(F:HN fr S I)(hy:getF fr "node" =af (.str y))(h1:y∈seen)(h2:y∉fD.map (·.x.nm)){fl:Fl}{s':eP}(hp:K2 P aj cQ 200 z ⟨fr,os⟩=af (fl,s'))(hf:fl= .next∨fl= .brk):dx (cx P aj cQ ao) (cx P aj cQ bf) z ⟨fr,os⟩=af (fl,s'):=by
 have i1:=λfr=>D7 (c:=cx P aj cQ ao) (z:=z) (fr:=fr) (k:=y) h.se;have i2:=λfr=>in_dict (c:=cx P aj cQ ao) (z:=z) (fr:=fr) (k:=y) h.ns;have e:(lookE (mK fD) y).isSome=bf:=by
  induction q:(lookE (mK fD) y).isSome using cG with
  |false=>rfl
  |true=>have:=Br.mp q;rw [rR,pI] at this;exact absurd this h2
 rw [e] at i2;simp only [K2,seqM] at hp;rcases hf with rfl|rfl
 ·(delta dx;with_reducible repeat' (first|apply F.se|apply F.ns|apply hy|apply i1|apply i2|exact br|apply bt|apply bq|apply bG|exact aI|apply uY|apply aO|(apply ite_no;focus exact bj)|(apply bW;focus exact decide_eq_true h1)|with_unfolding_all apply hp))
 ·(delta dx;with_reducible repeat' (first|apply F.se|apply F.ns|apply hy|apply i1|apply i2|exact br|apply bt|apply bq|apply bG|exact aI|apply uY|apply aO|exact Bf|(apply ite_no;focus exact bj)|(apply bW;focus exact decide_eq_true h1)|with_unfolding_all apply hp))
theorem Nv(h:Fc b os S I fD seen)(F:HN fr S I)(hy:getF fr "node" =af (.str y))(h1:y∈seen)(h2:y∈fD.map (·.x.nm))(hl:fD.length<=1000):∃l1 l2,dx (cx P aj cQ ao) (cx P aj cQ bf) z ⟨fr,os⟩=af (.ret (.ref (os.length+2)),⟨fr,os++ [l1]++ [l2]++ [.list ((pJ (stkL (λf=>f.x.nm) fD) y).map .str)]⟩):=by
 refine cO (Jq h2) λk k1 k2 k3=>?_;have i1:=λfr=>D7 (c:=cx P aj cQ ao) (z:=z) (fr:=fr) (k:=y) h.se;have i2:=λfr=>in_dict (c:=cx P aj cQ ao) (z:=z) (fr:=fr) (k:=y) h.ns;have i3:=λfr=>y5 (c:=cx P aj cQ ao) (z:=z) (fr:=fr) h.ns k1;rw [k1] at i2;have st:=h.st;rw [FO (λf=>f.x.nm) bc] at st;have hL:(stkL (λf=>f.x.nm) fD).length=fD.length:=gQ ..;generalize stkL (λf=>f.x.nm) fD=L at*;have o1:=λfr=>eC (c:=cx P aj cQ ao) st z fr;have sl:sS (L.map bc) (.int k) .none .none=af ((L.drop k).map bc):=by rw [D8,←nq]
 have al1:=λfr=>dQ (o:=.list ((L.drop k).map bc)) (by simp only [sizeOk,aH,kA];exact decide_eq_true (qi (ai (BU _ _) (ai (ar hL) hl)) rfl)) z fr os;have al2:=λfr=>dQ (o:=.list [bc y]) (by rfl) z fr (os++ [.list ((L.drop k).map bc)]);have g1:((os++ [cA ((L.drop k).map bc)])++ [cA [bc y]])[os.length]? =af (.list ((L.drop k).map bc)):=by simp
 have g2:((os++ [cA ((L.drop k).map bc)])++ [cA [bc y]])[(os++ [cA ((L.drop k).map bc)]).length]? =af (.list [bc y]):=by simp
 have o2:=λfr=>eC (c:=cx P aj cQ ao) g1 z fr;have o3:=λfr=>eC (c:=cx P aj cQ ao) g2 z fr;have al3:=λfr=>dQ (o:=.list ((L.drop k).map bc++ [bc y])) (by simp only [sizeOk,aq,aH,kA,aU,gF];exact decide_eq_true (Iu (ai (BU _ _) (ai (ar hL) hl)) rfl)) z fr ((os++ [.list ((L.drop k).map bc)])++ [.list [bc y]]);have e:(pJ L y).map bc=(L.drop k).map bc++ [bc y]:=by
  dsimp only [pJ];rw [←k3,cw];rfl
 have e2:(os++ [cA ((L.drop k).map bc)]++ [cA [bc y]]).length=os.length+2:=by simp
 rw [e,←e2];refine ⟨.list ((L.drop k).map bc),.list [bc y],?_⟩;simp only [dx,seqM,zK,mpure,yY,Cj,dR,uW,b6,c8,eX,if_true,if_false,reduceIte,cU,dT,cR,fE,fk,reduceCtorEq,cmpC,isV,cP,F.se,F.ns,F.st,hy,i1,i2,i3,h1,decide_true,Option.isSome_some,lu,o1,sl,al1,al2,binC,o2,o3,al3]
end
section
variable{I:Ix}{fD:List Sk}
def Jr(os:List O)(I:Ix)(fD:List Sk)(seen:List Str)(x:Nd):List O:=
 (((os.set I.se (.set (seen++ [x.nm]))++ [mh x.su 0]++ [xk os.length]).set I.u0 (.list (stkL (λf=>iu f.q) fD++ [iu (os.length+1)]))).set I.ns (.dict (mK fD++ [(x.nm,bD fD.length)]))).set I.st (.list (stkL (λf=>bc f.x.nm) fD++ [bc x.nm]))
theorem QA(h:Fc b os S I fD seen){x:Nd}(hx:x∈S.dj)(h2:x.nm∉fD.map (·.x.nm))(hb:b<=os.length):Fc b (Jr os I fD seen x) S I (⟨x,0,os.length+1,os.length⟩::fD) (seen++ [x.nm])/\Hi b os (Jr os I fD seen x):=by
 refine iQ h.ne λe1 e2 e3 e4 e5 r'1=>?_;refine d7 r'1 λe6 ne=>?_;have l1:=aY h.st;have l2:=aY h.u0;have l3:=aY h.se;have l4:=aY h.ns;have hlow:∀j∈u3 I fD,j<os.length:=by
  intro j hj;simp only [u3,aZ] at hj;rcases hj with rfl|rfl|rfl|rfl|hj
  ·exact l1
  ·exact l2
  ·exact l3
  ·exact l4
  ·refine aR (cJ.mp hj) λf hf hj=>?_;refine cW (h.fr f hf) λ_ k2 k3=>?_;simp only [Bk,aZ,de,or_false] at hj;rcases hj with rfl|rfl
   ·exact aY k2
   ·exact aY k3
 have hh:b<=I.st/\b<=I.u0/\b<=I.se/\b<=I.ns:=⟨h.high _ (by exact fm),h.high _ (by simp [u3]),h.high _ (by simp [u3]),h.high _ (by simp [u3])⟩;have hL:(os.set I.se (.set (seen++ [x.nm]))).length=os.length:=by exact dI
 have g1:(os.set I.se (.set (seen++ [x.nm]))++ [mh x.su 0]++ [xk os.length])[os.length]? =af (.kP x.su 0):=by
  rw [aQ,bT (by exact ar hL),hL,me];rfl
 have g2:(os.set I.se (.set (seen++ [x.nm]))++ [mh x.su 0]++ [xk os.length])[os.length+1]? =af (.next os.length):=by
  rw [aQ,bT (by exact ix (ar hL)),hL,dO];rfl
 refine ⟨⟨?_,h.low,?_,?_,?_,?_,?_,?_,?_,?_⟩,?_⟩
 ·exact h.ru hh.1 _ (h.ru hh.2.2.2 _ (h.ru hh.2.1 _ (((h.ru hh.2.2.1 _ h.Nn).grow _).grow _)))
 ·exact dA (bC (bC (bI (bI (bC h.st (λq=>e2 q.symm)))) (λq=>e1 q.symm)) (λq=>e3 q.symm))
 ·exact bC (bC (dA (bI (bI (bC h.u0 (λq=>e4 q.symm))))) (λq=>e5 q.symm)) e1
 ·exact bC (bC (bC (bI (bI (dA h.se))) e4) (λq=>e6 q.symm)) e2
 ·exact bC (dA (bC (bI (bI (bC h.ns e6))) e5)) e3
 ·intro f hf;rcases jJ hf with rfl|hf
  ·refine ⟨hx,?_,?_⟩
   ·exact bC (bC (bC g2 (show I.u0≠os.length+1 from OX l2)) (show I.ns≠os.length+1 from OX l4)) (show I.st≠os.length+1 from OX l1)
   ·exact bC (bC (bC g1 (show I.u0≠os.length by exact bP l2)) (show I.ns≠os.length by exact bP l4)) (show I.st≠os.length by exact bP l1)
  ·refine cW (h.fr f hf) λk1 k2 k3=>?_;have n1:=ne f hf f.q (by exact fm);have n2:=ne f hf f.i (by simp [Bk]);exact ⟨k1,bC (bC (bC (bI (bI (bC k2 (λq=>n1.2.2.1 q.symm)))) (λq=>n1.2.1 q.symm)) (λq=>n1.2.2.2 q.symm)) (λq=>n1.1 q.symm),bC (bC (bC (bI (bI (bC k3 (λq=>n2.2.2.1 q.symm)))) (λq=>n2.2.1 q.symm)) (λq=>n2.2.2.2 q.symm)) (λq=>n2.1 q.symm)⟩
 ·have:=h.nodup;have hn:∀j∈fD.flatMap Bk,j<os.length:=λj hj=>hlow j (by simp only [u3,aZ];exact .inr (.inr (.inr (.inr hj))));have n1:os.length∉fD.flatMap Bk:=λq=>absurd (hn _ q) (aX _);have n2:os.length+1∉fD.flatMap Bk:=λq=>absurd (hn _ q) (iw);simp only [u3,bu,aZ,bz,Bk,e9,dS,not_or] at this ⊢;refine iJ this λq'2 q'3 q'4 XX Yy=>?_;obtain ⟨a1,a2,a3,a4⟩:=q'2;obtain ⟨a5,a6,a7⟩:=q'3;obtain ⟨a8,a9⟩:=q'4;exact ⟨⟨a1,a2,a3,OX l1,bP l1,a4⟩,⟨a5,a6,OX l2,bP l2,a7⟩,⟨a8,OX l3,bP l3,a9⟩,⟨OX l4,by exact bP l4,XX⟩,⟨by exact Nat.succ_ne_self _,n2⟩,n1,Yy⟩
 ·intro j hj;simp only [u3,bz,Bk,aZ,e9,dS] at hj;rcases hj with rfl|rfl|rfl|rfl|rfl|rfl|hj
  ·exact hh.1
  ·exact hh.2.1
  ·exact hh.2.2.1
  ·exact hh.2.2.2
  ·show b<=os.length+1;exact ix hb
  ·exact hb
  ·exact h.high j (by simp only [u3,aZ];exact .inr (.inr (.inr (.inr hj))))
 ·rw [bx,bu];exact ⟨h2,h.names⟩
 ·exact (((((Hi.set hh.2.2.1 _).trans (Hi.grow (by rw [hL];exact hb) _)).trans (Hi.grow (by simp;exact ix hb) _)).trans (Hi.set hh.2.1 _)).trans (Hi.set hh.2.2.2 _)).trans (Hi.set hh.1 _)
theorem FQ(h:Fc b os S I fD seen)(F:HN fr S I){x:Nd}(hx:x∈S.dj)(hy:getF fr "node" =af (.str x.nm))(h1:x.nm∉seen)(h2:x.nm∉fD.map (·.x.nm))(hl:fD.length<=1000)(hs:seen.length<=1000)(hz:∀j∈z,j<b){fl:Fl}{s':eP}(hp:K2 P aj cQ 200 z ⟨fr,Jr os I fD seen x⟩=af (fl,s'))(hf:fl= .next∨fl= .brk):dx (cx P aj cQ ao) (cx P aj cQ bf) z ⟨fr,os⟩=af (fl,s'):=by
 refine iQ h.ne λe1 e2 e3 e4 e5 r'5=>?_;refine d7 r'5 λe6 ne=>?_;have hz':∀j∈u3 I fD,j∉z:=λj hj q=>absurd (hz j q) (cD.mpr (h.high j hj));have hh:b<=I.st/\b<=I.u0/\b<=I.se/\b<=I.ns:=⟨h.high _ (by exact fm),h.high _ (by simp [u3]),h.high _ (by simp [u3]),h.high _ (by simp [u3])⟩;have i1:=λfr=>D7 (c:=cx P aj cQ ao) (z:=z) (fr:=fr) (k:=x.nm) h.se;have a1:=λfr=>Ub (c:=cx P aj cQ ao) (z:=z) (fr:=fr) h.se Uc;have a2:=λfr=>Wu (c:=cx P aj cQ ao) (z:=z) (fr:=fr) (v:=x.nm) h.se (hz' _ (by simp [u3])) (Iu hs rfl);rw [if_neg h1] at a2;have hL:(os.set I.se (.set (seen++ [x.nm]))).length=os.length:=by exact dI
 have Rz:(os.set I.se (.set (seen++ [x.nm])))[I.u0]? =_:=bC h.u0 (λq=>e4 q.symm);have a3:=λfr=>k9 (c:=cx P aj cQ ao) (z:=z) (fr:=fr) Rz mJ;have s1:=h.ru hh.2.2.1 (.set (seen++ [x.nm])) h.Nn;refine cW (s1.nd x hx) λn1 n2 n3=>?_;have a4:=λfr=>y5 (c:=cx P aj cQ ao) (z:=z) (fr:=fr) s1.dict (xZ h.Nn.names hx);have a5:=λfr=>vG (P:=P) (aj:=aj) (cQ:=cQ) (hd:=true) (z:=z) (fr:=fr) (v:=.ref x.su) n1 n2 (M0 P).1 rfl rfl;have a6:∀fr,Pj (cx P aj cQ ao) "iter" [.ref x.su] z ⟨fr,os.set I.se (.set (seen++ [x.nm]))⟩=af (.ref os.length,⟨fr,os.set I.se (.set (seen++ [x.nm]))++ [mh x.su 0]⟩):=λfr=>by
  have:=dQ (o:=.kP x.su 0) rfl z fr (os.set I.se (.set (seen++ [x.nm])));rw [hL] at this;exact Ug.trans ((ba (eC n3 z fr)).trans this)
 have a7:=λfr=>Nh (a6 fr);have g1:(os.set I.se (.set (seen++ [x.nm]))++ [mh x.su 0])[os.length]? =af (.kP x.su 0):=by
  rw [bT (by exact ar hL),hL,me];rfl
 have a8:∀fr,eE (cx P aj cQ ao) (.ref os.length) "__next__" z ⟨fr,os.set I.se (.set (seen++ [x.nm]))++ [mh x.su 0]⟩=af (.ref (os.length+1),⟨fr,os.set I.se (.set (seen++ [x.nm]))++ [mh x.su 0]++ [xk os.length]⟩):=λfr=>by
  have:=dQ (o:=.next os.length) rfl z fr (os.set I.se (.set (seen++ [x.nm]))++ [mh x.su 0]);rw [aq,hL] at this;exact (ba (eC g1 z fr)).trans ((Bd rfl z _).trans this)
 have its2:(os.set I.se (.set (seen++ [x.nm]))++ [mh x.su 0]++ [xk os.length])[I.u0]? =_:=bI (bI Rz);have a9:=λfr=>pG (c:=cx P aj cQ ao) (z:=z) (fr:=fr) (v:=.ref (os.length+1)) its2 (hz' _ (by simp [u3])) (by rw [gQ];exact Iu hl rfl);have st1:((os.set I.se (.set (seen++ [x.nm]))++ [mh x.su 0]++ [xk os.length]).set I.u0 (.list (stkL (λf=>iu f.q) fD++ [iu (os.length+1)])))[I.st]? =_:=bC (bI (bI (bC h.st (λq=>e2 q.symm)))) (λq=>e1 q.symm);have b1:=λfr=>Jl (P:=P) (aj:=aj) (cQ:=cQ) (z:=z) (fr:=fr) (.inl st1);rw [gQ] at b1;have ZY:((os.set I.se (.set (seen++ [x.nm]))++ [mh x.su 0]++ [xk os.length]).set I.u0 (.list (stkL (λf=>iu f.q) fD++ [iu (os.length+1)])))[I.ns]? =_:=bC (bI (bI (bC h.ns e6))) e5;have ep:jY (mK fD) x.nm (.int fD.length)=mK fD++ [(x.nm,bD fD.length)]:=FN (by rw [rR,pI];exact h2);have b2:=λfr=>xY (c:=cx P aj cQ ao) (z:=z) (fr:=fr) (k:=x.nm) (v:=.int fD.length) ZY (hz' _ (by simp [u3])) (by refine ep▸ ?_;simp [u4];exact bR hl);rw [ep] at b2;have st2:(((os.set I.se (.set (seen++ [x.nm]))++ [mh x.su 0]++ [xk os.length]).set I.u0 (.list (stkL (λf=>iu f.q) fD++ [iu (os.length+1)]))).set I.ns (.dict (mK fD++ [(x.nm,bD fD.length)])))[I.st]? =_:=bC st1 (λq=>e3 q.symm);have b3:=λfr=>k9 (c:=cx P aj cQ ao) (z:=z) (fr:=fr) st2 mJ;have b4:=λfr=>pG (c:=cx P aj cQ ao) (z:=z) (fr:=fr) (v:=.str x.nm) st2 (hz' _ (by exact fm)) (by rw [gQ];exact Iu hl rfl);simp only [K2,seqM,Jr] at hp;rcases hf with rfl|rfl
 ·(delta dx;with_reducible repeat' (first|apply F.se|apply F.ns|apply F.u0|apply F.st|apply F.hV|apply hy|apply i1|apply a1|apply a2|apply a3|apply a4|apply a5|apply a7|apply a8|apply a9|apply b1|apply b2|apply b3|apply b4|exact dR _ _ _|exact br|apply bt|apply bq|apply bG|exact aI|apply uY|apply aO|(apply b8;apply bX)|(apply ite_no;focus exact nt (decide_eq_false h1))|with_unfolding_all apply hp))
 ·(delta dx;with_reducible repeat' (first|apply F.se|apply F.ns|apply F.u0|apply F.st|apply F.hV|apply hy|apply i1|apply a1|apply a2|apply a3|apply a4|apply a5|apply a7|apply a8|apply a9|apply b1|apply b2|apply b3|apply b4|exact dR _ _ _|exact br|apply bt|apply bq|apply bG|exact aI|apply uY|apply aO|exact Bf|(apply b8;apply bX)|(apply ite_no;focus exact nt (decide_eq_false h1))|with_unfolding_all apply hp))
end
theorem jt:∀{l m:List Str},l.Nodup->(∀a∈l,a∈m)->l.length<=m.length
 | [],m,_,_=>eS _
 |a::l,m,h,hs=>by
  rw [bu] at h;have ha:=hs a (fm ..);have:=jt (l:=l) (m:=m.erase a) h.2 λc hc=>(List.mem_erase_of_ne (show c≠a from λq=>h.1 (q▸hc))).mpr (hs c (i8 _ hc));rw [List.length_erase_of_mem ha] at this;have hp:=List.length_pos_of_mem ha;simp only [aU];exact Nat.add_le_of_le_sub hp this
abbrev PS:=List (Str × List Str)
noncomputable def D9:PS->Option (Str × PS)
 | []=>ae
 |(_,[])::r=>D9 r
 |(x,y::ys)::r=>af (y,(x,ys)::r)
noncomputable def ab(f:Sk):Str × List Str:=(f.x.nm,f.x.ss.drop f.k)
theorem HR:∀fD:List Sk,D9 (fD.map ab)=(Bm fD).map λp=>(p.1,p.2.map ab)
 | []=>rfl
 |f::r=>by
  dsimp only [Bm];induction h:f.x.ss[f.k]? using aw with
  |none=>
   have e:f.x.ss.drop f.k= []:=fI (ql.mp h);show D9 ((f.x.nm,f.x.ss.drop f.k)::r.map ab)=_;refine e▸ ?_;exact HR r
  |some y=>
   obtain ⟨hl,hy⟩:=cS.mp h;have e:f.x.ss.drop f.k=y::f.x.ss.drop (f.k+1):=by rw [fQ hl,hy]
   show D9 ((f.x.nm,f.x.ss.drop f.k)::r.map ab)=_;refine e▸ ?_;rfl
def wX(g:Str->List Str):Nat->Str->PS->List Str->Option (List Str ⊕ List Str)
 |0,_,_,_=>ae
 |n+1,y,st,seen=>
  if y∈seen then
   if y∈st.map (·.1) then af (.inl (pJ (st.map (·.1)).reverse y))
   else match D9 st with
    |none=>af (.inr seen)
    |some (y',st')=>wX g n y' st' seen
  else match D9 ((y,g y)::st) with
   |none=>af (.inr (seen++ [y]))
   |some (y',st')=>wX g n y' st' (seen++ [y])
theorem FR(g:Sk->α):∀fD:List Sk,stkL g fD=(fD.map g).reverse
 | []=>rfl
 |f::r=>by simp [stkL,FR g r]
theorem Ea:∀{fD Gv:List Sk}{y:Str},Bm fD=af (y,Gv)->(∀a∈Gv.map (·.x.nm),a∈fD.map (·.x.nm))/\∃f∈fD,y∈f.x.ss
 |f::r,Gv,y,h=>by
  dsimp only [Bm] at h;induction q:f.x.ss[f.k]? using aw with
  |none=>
   rw [q] at h;refine d7 (Ea (fD:=r) h) λh1 r'1=>?_;refine aR r'1 λf' hf hy=>?_;exact ⟨λa ha=>i8 _ (h1 a ha),f',i8 _ hf,hy⟩
  |some w=>
   rw [q] at h;simp only [gD,Cw] at h;obtain ⟨rfl,rfl⟩:=h;exact ⟨λa ha=>ha,f,fm ..,bN q⟩
structure Cl(S:Sr)(g:Str->List Str):Prop where
 ss:∀x∈S.dj,g x.nm=x.ss
 cl:∀x∈S.dj,∀y∈x.ss,y∈S.dj.map (·.nm)
 len:S.dj.length<=190
section
variable{I:Ix}
structure Sn(S:Sr)(seen:List Str):Prop where
 nodup:seen.Nodup
 sub:∀a∈seen,a∈S.dj.map (·.nm)
theorem Sn.le(h:Sn S seen)(c:Cl S g):seen.length<=190:=by
 have:=jt h.nodup h.sub;rw [aH] at this;exact ai this c.len
theorem Sn.add(h:Sn S seen)(hy:y∈S.dj.map (·.nm))(hn:y∉seen):Sn S (seen++ [y]):=by
 refine ⟨?_,λa ha=>?_⟩
 ·refine (bo).mpr ?_;refine ⟨h.nodup,by exact iK rfl,λa ha c hc=>?_⟩;rw [aL] at hc;intro q;exact hn (hc▸q▸ha)
 ·rcases aG.mp ha with ha|ha
  ·exact h.sub a ha
  ·rw [aL] at ha;exact ha▸hy
def Dn(P:eR)(aj:List (bk × O))(cQ:zI)(z:List Nat)(S:Sr)(I:Ix)(b m:Nat)(fr:eB)(os:List O):List Str ⊕ List Str->Prop
 | .inl ring=>∃et os' i,hU (i9 (cx P aj cQ ao)) (dx (cx P aj cQ ao) (cx P aj cQ bf)) (aA bp) m z ⟨fr,os⟩=af (.ret (.ref i),⟨et,os'⟩)/\os'[i]? =af (.list (ring.map .str))/\Hi b os os'/\b<=i
 | .inr seen=>∃et os',hU (i9 (cx P aj cQ ao)) (dx (cx P aj cQ ao) (cx P aj cQ bf)) (aA bp) m z ⟨fr,os⟩=af (.next,⟨et,os'⟩)/\Fc b os' S I [] seen/\HN et S I/\Hi b os os'/\Sn S seen
theorem Dn.next{m:Nat}{r:List Str ⊕ List Str}(h:dx (cx P aj cQ ao) (cx P aj cQ bf) z ⟨fr,os⟩=af (.next,⟨et,os'⟩))(hi:Hi b os os')(d:Dn P aj cQ z S I b m et os' r):Dn P aj cQ z S I b (m+1) fr os r:=by
 have e:=x4 (orelse:=aA bp) (n:=m) (test:=i9 (cx P aj cQ ao)) (z:=z) (s:=⟨fr,os⟩) rfl h;induction r using Sum.casesOn with
 |inl ring=>
  refine b9 d λkN dc i h1 h2 h3 h4=>?_;exact ⟨kN,dc,i,e.trans h1,h2,hi.trans h3,h4⟩
 |inr seen=>
  refine dD d λkN dc h1 h2 h3 h4 h5=>?_;exact ⟨kN,dc,e.trans h1,h2,h3,hi.trans h4,h5⟩
theorem visit(cl:Cl S g)(hz:∀j∈z,j<b){r:List Str ⊕ List Str}:∀{n m:Nat}{y:Str}{fD:List Sk}{seen:List Str}{fr:eB}{os:List O},wX g n y (fD.map ab) seen=af r->n<=m->Fc b os S I fD seen->HN fr S I->b<=os.length->getF fr "node" =af (.str y)->y∈S.dj.map (·.nm)->(∀a∈fD.map (·.x.nm),a∈seen)->Sn S seen->Dn P aj cQ z S I b m fr os r
 |0,_,_,_,_,_,_,hd,_,_,_,_,_,_,_,_=>by trivial
 |n+1,0,_,_,_,_,_,_,hm,_,_,_,_,_,_,_=>by exact (gI _ hm).elim
 |n+1,m+1,y,fD,seen,fr,os,hd,hm,h,F,hb,hy,Vu,hst,hs=>by
  have e1:(fD.map ab).map (·.1)=fD.map (·.x.nm):=by refine (dw).trans ?_;rfl
  have hsl:=hs.le cl;have BK:fD.length<=190:=by
   have:=jt h.names (m:=S.dj.map (·.nm)) λa ha=>hs.sub a (hst a ha);rw [aH,aH] at this;exact ai this cl.len
  dsimp only [wX] at hd;rw [e1] at hd;by_cases h1:y∈seen
  ·rw [if_pos h1] at hd;by_cases h2:y∈fD.map (·.x.nm)
   ·rw [if_pos h2] at hd;simp only [gD] at hd;subst hd;refine Aq (Nv (P:=P) (aj:=aj) (cQ:=cQ) (z:=z) h F hy h1 h2 (by exact bR BK)) λl1 l2 q=>?_;rw [FR] at q;refine ⟨fr,_,os.length+2,Ul rfl q,?_,?_,by exact jg hb⟩
    ·refine (bT (by simp)).trans ?_;simp
    ·exact ((Hi.grow hb _).trans (Hi.grow (by simp;exact ix hb) _)).trans (Hi.grow (by simp;exact jg hb) _)
   ·rw [if_neg h2,HR] at hd;induction hp:Bm fD using aw with
    |none=>
     rw [hp] at hd;simp only [dT,gD] at hd;subst hd;refine cO (Bq (P:=P) (aj:=aj) (cQ:=cQ) (n:=200) hp (by exact bR BK) (Iu BK rfl) h F hz) λos' q1 q2 q3=>?_;exact ⟨fr,os',HO rfl (FP h F hy h1 h2 q1 (.inr rfl)),q2,F,q3,hs⟩
    |some p=>
     obtain ⟨y',Gv⟩:=p;rw [hp] at hd;refine cO (Bp (P:=P) (aj:=aj) (cQ:=cQ) (n:=200) hp (by exact bR BK) (by exact bR BK) h F hz) λos' q1 q2 q3=>?_;refine d7 (Ea hp) λp1 r'2=>?_;refine aR r'2 λf hf p2=>?_;exact Dn.next (FP h F hy h1 h2 q1 (.inl rfl)) q3 (visit cl hz (n:=n) hd (by exact dF hm) q2 (F.put _) (ai hb q3.len) (by rw [b6,if_pos rfl]) (cl.cl f.x (h.fr f hf).1 _ p2) (λa ha=>hst a (p1 a ha)) hs)
  ·rw [if_neg h1] at hd;refine aR (aT.mp Vu) λx hx q'3=>?_;obtain rfl:=q'3;have h2:x.nm∉fD.map (·.x.nm):=λq=>h1 (hst _ q);obtain ⟨hF,hH⟩:=QA h hx h2 hb;have e2:(x.nm,g x.nm)::fD.map ab=((⟨x,0,os.length+1,os.length⟩:Sk)::fD).map ab:=by
    refine (cl.ss x hx)▸ ?_;rfl
   rw [e2,HR] at hd;have hs':=hs.add Vu h1;induction hp:Bm ((⟨x,0,os.length+1,os.length⟩:Sk)::fD) using aw with
   |none=>
    rw [hp] at hd;simp only [dT,gD] at hd;subst hd;refine cO (Bq (P:=P) (aj:=aj) (cQ:=cQ) (n:=200) hp (by simp;exact bR BK) (by simp;exact qi (cg BK 2) rfl) hF F hz) λos' q1 q2 q3=>?_;exact ⟨fr,os',HO rfl (FQ h F hx hy h1 h2 (by exact bR BK) (by exact bR hsl) hz q1 (.inr rfl)),q2,F,hH.trans q3,hs'⟩
   |some p=>
    obtain ⟨y',Gv⟩:=p;rw [hp] at hd;refine cO (Bp (P:=P) (aj:=aj) (cQ:=cQ) (n:=200) hp (by simp;exact bR BK) (by simp;exact bR BK) hF F hz) λos' q1 q2 q3=>?_;refine d7 (Ea hp) λp1 r'4=>?_;refine aR r'4 λf hf p2=>?_;have h3:=hH.trans q3;refine Dn.next (FQ h F hx hy h1 h2 (by exact bR BK) (by exact bR hsl) hz q1 (.inl rfl)) h3 (visit cl hz (n:=n) hd (by exact dF hm) q2 (F.put _) (ai hb h3.len) (by rw [b6,if_pos rfl]) (cl.cl f.x (hF.fr f hf).1 _ p2) (λa ha=>?_) hs');have:=p1 a ha;rw [bx,aZ] at this;rcases this with q|q
    ·rw [q];exact cI _ fm
    ·exact cf _ (hst a q)
end
def findP(g:Str->List Str)(n:Nat):List Str->List Str->Option (Option (List Str))
 | [],_=>af ae
 |y::r,seen=>if y∈seen then findP g n r seen else match wX g n y [] seen with
  |none=>ae
  |some (.inl ring)=>af (af ring)
  |some (.inr seen')=>findP g n r seen'
section
variable{I:Ix}
def Fd(P:eR)(aj:List (bk × O))(cQ:zI)(z:List Nat)(b:Nat)(ys:List V)(fr:eB)(os:List O):Option (List Str)->Prop
 |some ring=>∃et os' i,fU (λv=>c4 (cx P aj cQ ao) (cx P aj cQ bf) v) ys z ⟨fr,os⟩=af (.ret (.ref i),⟨et,os'⟩)/\os'[i]? =af (.list (ring.map .str))/\Hi b os os'/\b<=i
 |none=>∃et os',fU (λv=>c4 (cx P aj cQ ao) (cx P aj cQ bf) v) ys z ⟨fr,os⟩=af (.next,⟨et,os'⟩)/\Hi b os os'
theorem seek(cl:Cl S g)(hz:∀j∈z,j<b)(hn:n<=200){r:Option (List Str)}:∀{ys seen:List Str}{fr:eB}{os:List O},findP g n ys seen=af r->Fc b os S I [] seen->HN fr S I->b<=os.length->(∀y∈ys,y∈S.dj.map (·.nm))->Sn S seen->Fd P aj cQ z b (ys.map .str) fr os r:=by
 intro Ij;induction Ij with
 |nil=>
  intro seen fr os hd h F hb hys hs;simp only [findP,gD] at hd;subst hd;exact ⟨fr,os,rfl,Hi.refl⟩
 |cons y ys ih'=>
  intro seen fr os hd h F hb hys hs;have i1:=λfr=>D7 (c:=cx P aj cQ ao) (z:=z) (fr:=fr) (k:=y) h.se;have F':=F.put (.str y);have hy:getF (putF fr "node" (.str y)) "node" =af (.str y):=by rw [b6,if_pos rfl]
  dsimp only [findP] at hd;by_cases h1:y∈seen
  ·rw [if_pos h1] at hd;have e:c4 (cx P aj cQ ao) (cx P aj cQ bf) (.str y) z ⟨fr,os⟩=af (.cont,⟨putF fr "node" (.str y),os⟩):=by
    (delta c4;with_reducible repeat' (first|apply F.se|apply i1|exact br|apply bt|apply bq|apply bG|apply bO|exact aE|apply av (by decide)|exact aI|apply uY|exact KP|rfl|(apply bW;focus (simp only [mpure,yY,Cj,dR,uW,b6,c8,eX,if_true,if_false,reduceIte,cU,dT,cR,fE,fk,reduceCtorEq,cmpC,isV,cP,F.se,i1,h1,decide_true];done))))
   have:=ih' hd h F' hb (λa ha=>hys a (i8 _ ha)) hs;have e2:=Nk (turn:=λv=>c4 (cx P aj cQ ao) (cx P aj cQ bf) v) (r:=ys.map bc) e;induction r using aw with
   |none=>
    refine gk this λkN dc q1 q2=>?_;exact ⟨kN,dc,e2.trans q1,q2⟩
   |some ring=>
    refine gj this λkN dc i q1 q2=>?_;exact ⟨kN,dc,i,e2.trans q1,q2⟩
  ·rw [if_neg h1] at hd;induction hq:wX g n y [] seen using aw with
   |none=>rw [hq] at hd;trivial
   |some d=>
    rw [hq] at hd;have hv:=visit (P:=P) (aj:=aj) (cQ:=cQ) (I:=I) cl hz (n:=n) (m:=200) (fD:=[]) hq hn h F' hb hy (hys y (fm ..)) (λa ha=>by exact cf _ (by assumption)) hs;induction d using Sum.casesOn with
    |inl ring=>
     simp only [gD] at hd;subst hd;refine b9 hv λkN dc i q1 q2 q3 q4=>?_;have e:c4 (cx P aj cQ ao) (cx P aj cQ bf) (.str y) z ⟨fr,os⟩=af (.ret (.ref i),⟨kN,dc⟩):=by
      (delta c4;with_reducible repeat' (first|apply F.se|apply i1|apply q1|exact br|apply bt|apply bq|apply bG|apply bO|exact aE|apply av (by decide)|exact aI|apply uY|apply aO|exact bA|rfl|(apply ite_no;focus exact nt (decide_eq_false h1))))
     exact ⟨kN,dc,i,Jo (turn:=λv=>c4 (cx P aj cQ ao) (cx P aj cQ bf) v) e,q2,q3,q4⟩
    |inr seen'=>
     refine dD hv λkN dc q1 q2 q3 q4 q5=>?_;have e:c4 (cx P aj cQ ao) (cx P aj cQ bf) (.str y) z ⟨fr,os⟩=af (.next,⟨kN,dc⟩):=by
      (delta c4;with_reducible repeat' (first|apply F.se|apply i1|apply q1|exact br|apply bt|apply bq|apply bG|apply bO|exact aE|apply av (by decide)|exact aI|apply uY|apply aO|rfl|(apply ite_no;focus exact nt (decide_eq_false h1))))
     have e2:=ij (turn:=λv=>c4 (cx P aj cQ ao) (cx P aj cQ bf) v) (r:=ys.map bc) e;have:=ih' hd q2 q3 (ai hb q4.len) (λa ha=>hys a (i8 _ ha)) q5;induction r using aw with
     |none=>
      refine gk this λLp iI r1 r2=>?_;exact ⟨Lp,iI,e2.trans r1,q4.trans r2⟩
     |some ring=>
      refine b9 this λLp iI i r1 r2 r3 r4=>?_;exact ⟨Lp,iI,i,e2.trans r1,r2,q4.trans r3,r4⟩
def Y5(os os':List O)(v:V):Option (List Str)->Prop
 |some ring=>∃i,v= .ref i/\os'[i]? =af (.list (ring.map .str))/\os.length<=i
 |none=>v= .none
theorem FT(h:gy os S)(cl:Cl S g)(hz:∀j∈z,j<os.length){m:Nat}(hn:n<=200){r:Option (List Str)}(hr:findP g n (S.dj.map (·.nm)) []=af r):∃os' v,cN P aj (m+1) (.top 127) [.ref S.i] os z=af (.ret v,os')/\Hi os.length os os'/\Y5 os os' v r:=by
 rw [xR];have a0:=λfr=>(h.attr (P:=P) (aj:=aj) (cQ:=cN P aj m) fr z ao).1;have l1:=λfr=>dQ (o:=.list []) (by decide) z fr os;have l2:=λfr=>dQ (o:=.list []) (by decide) z fr (os++ [.list []]);have l3:∀fr,dN (cy P aj m) (.type "set") [] z ⟨fr,os++ [.list []]++ [.list []]⟩=af (.ret (.ref (os++ [cA []]++ [cA []]).length),⟨fr,os++ [.list []]++ [.list []]++ [.set []]⟩):=λfr=>Ni (by
  have:=dQ (o:=.set []) (by decide) z fr (os++ [.list []]++ [.list []]);assumption)
 have l4:=λfr=>dQ (o:=.dict []) (by decide) z fr (os++ [.list []]++ [.list []]++ [.set []]);have h':gy (os++ [.list []]++ [.list []]++ [.set []]++ [.dict []]) S:=(((h.grow _).grow _).grow _).grow _;have a1:=λfr=>Nm (P:=P) (aj:=aj) (cQ:=cN P aj m) (z:=z) (fr:=fr) h'.dict;have ek:(S.dj.map λx=>(x.nm,iu x.info)).map (λe=>bc e.1)=(S.dj.map (·.nm)).map bc:=by simp
 rw [ek] at a1;have hF:HN [(ah "self",.ref S.i),(ah "n2i",.ref S.hV),(ah "stack",.ref os.length),(ah "itstack",.ref (os++ [cA []]).length),(ah "seen",.ref (os++ [cA []]++ [cA []]).length),(ah "node2stacki",.ref (os++ [cA []]++ [cA []]++ [O.set []]).length)] S ⟨os.length,(os++ [cA []]).length,(os++ [cA []]++ [cA []]).length,(os++ [cA []]++ [cA []]++ [O.set []]).length⟩:=by
  refine ⟨?_,?_,?_,?_,?_⟩<;>rfl
 have hC:Fc os.length (os++ [.list []]++ [.list []]++ [.set []]++ [.dict []]) S ⟨os.length,(os++ [cA []]).length,(os++ [cA []]++ [cA []]).length,(os++ [cA []]++ [cA []]++ [O.set []]).length⟩ [] []:=by
  refine ⟨h',h.lt,?_,?_,?_,?_,λf hf=>by simp at hf,?_,?_,dz⟩
  ·simp [stkL]
  ·simp [stkL]
  ·simp
  ·simp [mK]
  ·simp [u3]
  ·intro j hj;simp only [u3,kz,aZ,de,or_false] at hj;rcases hj with rfl|rfl|rfl|rfl<;>simp
 have hz1:∀j∈S.hV::z,j<os.length:=λj hj=>by
  rcases jJ hj with rfl|hj
  ·exact h.lt _ (by simp [idx])
  ·exact hz j hj
 have hH:Hi os.length os (os++ [.list []]++ [.list []]++ [.set []]++ [.dict []]):=by
  refine (((Hi.grow ?_ _).trans (Hi.grow ?_ _)).trans (Hi.grow ?_ _)).trans (Hi.grow ?_ _)<;>simp<;>omega
 have hs:=seek (P:=P) (aj:=aj) (cQ:=cN P aj m) cl hz1 hn hr hC hF (by simp) (λy hy=>hy) ⟨dz,λa ha=>by exact cf _ (by assumption)⟩;induction r using aw with
 |none=>
  refine gk hs λkN dc q1 q2=>?_;refine ⟨dc,.none,?_,hH.trans q2,rfl⟩;have OD:dk (af S.hV) (fU (λv=>c4 (cy P aj m) (cx P aj (cN P aj m) bf) v) ((S.dj.map (·.nm)).map bc)) z _=_:=q1;have:iS (cy P aj m) (cx P aj (cN P aj m) bf) z ⟨[("self",.ref S.i)],os⟩=af (.ret .none,⟨kN,dc⟩):=by
   (delta iS;with_reducible repeat' (first|apply a0|apply l1|apply l2|apply l3|apply l4|apply a1|apply OD|exact dR _ _ _|exact br|apply bt|apply bq|apply bG|apply bO|exact bb|apply bh (by decide)|exact fe|apply fP (by decide)|apply aO|exact bA))
  refine this▸ ?_;rfl
 |some ring=>
  refine b9 hs λkN dc i q1 q2 q3 q4=>?_;refine ⟨dc,.ref i,?_,hH.trans q3,i,rfl,q2,q4⟩;have OD:dk (af S.hV) (fU (λv=>c4 (cy P aj m) (cx P aj (cN P aj m) bf) v) ((S.dj.map (·.nm)).map bc)) z _=_:=q1;have:iS (cy P aj m) (cx P aj (cN P aj m) bf) z ⟨[("self",.ref S.i)],os⟩=af (.ret (.ref i),⟨kN,dc⟩):=by
   (delta iS;with_reducible repeat' (first|apply a0|apply l1|apply l2|apply l3|apply l4|apply a1|apply OD|exact dR _ _ _|exact br|apply bt|apply bq|apply bG|apply bO|exact bb|apply bh (by decide)|exact fe|apply fP (by decide)|apply aO|exact bA))
  refine this▸ ?_;rfl
end
structure Zw(z:List Nat)(S:Sr):Prop where
 nd:∀x∈S.dj,x.info∉z
 rd:∀r∈Ck S.rd,r∉z
 d:S.d∉z
def kI(nm:Str)(v:Int)(l:List NV):List NV:=rt nm (λe=>(e.1,v,e.2.2)) l
noncomputable def kM(l:List NV)(nm:Str):Int:=((l.find? λe=>e.1=nm).map (·.2.1)).getD 0
noncomputable def x7(l:List NV)(nm:Str):List Str:=((l.find? λe=>e.1=nm).map (·.2.2)).getD []
theorem Js{l:List Nd}(hn:(l.map (·.nm)).Nodup){x:Nd}(hx:x∈l)(e:x.nm=nm):(l.map nv).find? (λe=>e.1=nm)=af (nv x):=by
 induction l with
 |nil=>exact absurd hx aV
 |cons a l ih=>
  rw [bx,bu] at hn;rw [bx,jx];by_cases q:a.nm=nm
  ·have:decide ((nv a).1=nm)=ao:=decide_eq_true q;refine this▸ ?_;rcases jJ hx with rfl|hx
   ·rfl
   ·exact absurd (aT.mpr ⟨x,hx,e.trans q.symm⟩) hn.1
  ·have:decide ((nv a).1=nm)=bf:=decide_eq_false q;refine this▸ ?_;rcases jJ hx with rfl|hx
   ·exact absurd e q
   ·exact ih hn.2 hx
theorem Nw{l:List Nd}(hn:(l.map (·.nm)).Nodup){x:Nd}(hx:x∈l):kM (l.map nv) x.nm=x.np:=by
 unfold kM;refine (Js hn hx rfl)▸ ?_;rfl
theorem Nx{l:List Nd}(hn:(l.map (·.nm)).Nodup){x:Nd}(hx:x∈l):x7 (l.map nv) x.nm=x.ss:=by
 unfold x7;refine (Js hn hx rfl)▸ ?_;rfl
theorem Bj.zw(hz:Bj z os S):Zw z S:=⟨λx hx q=>(hz _ q).2 (xX hx (by exact fm)),λr hr q=>(hz _ q).2 (by unfold idx;simp [hr]),λq=>(hz _ q).2 (by simp [idx])⟩
theorem eq_int{a b:Int}(os:List O):EL os (.int a) (.int b)=af (decide (a=b)):=by
 refine Eq.trans (b:=if (BV a).canLay0=ao/\(BV b).canLay0=ao/\(BV a).depth<=20 then af (mP (.int a) (.int b)) else ae) rfl ?_;refine (if_pos ⟨rfl,rfl,ak rfl⟩).trans ?_;congr 1
theorem HS(h:gy os S)(hz:Zw z S){x:Nd}(hx:x∈S.dj)(v:Int):ec (cx P aj cQ hd) (.ref x.info) "npredecessors" (.int v) z ⟨fr,os⟩=af ((),⟨fr,os.set x.info (ED {x with np:=v})⟩):=by
 refine cW (h.nd x hx) λn1 n2 n3=>?_;exact wV (v:=.int v) n1 n2 (FF P).1 (FF P).2 (by exact iK rfl) (by decide) (hz.nd x hx)
theorem Eb(h:gy os S){x:Nd}(hx:x∈S.dj):eE (cx P aj cQ hd) (.ref x.info) "npredecessors" z ⟨fr,os⟩=af (.int x.np,⟨fr,os⟩):=by
 refine cW (h.nd x hx) λn1 n2 n3=>?_;exact vG (v:=.int x.np) n1 n2 (FF P).1 rfl rfl
theorem Um(h:gy os S){x:Nd}(hx:x∈S.dj):eE (cx P aj cQ hd) (.ref x.info) "successors" z ⟨fr,os⟩=af (.ref x.su,⟨fr,os⟩):=by
 refine cW (h.nd x hx) λn1 n2 n3=>?_;exact vG (v:=.ref x.su) n1 n2 (M0 P).1 rfl rfl
theorem Un(h:gy os S){x:Nd}(hx:x∈S.dj):eE (cx P aj cQ hd) (.ref x.info) "node" z ⟨fr,os⟩=af (.str x.nm,⟨fr,os⟩):=by
 refine cW (h.nd x hx) λn1 n2 n3=>?_;exact vG (v:=.str x.nm) n1 n2 (T9 P).1 rfl rfl
theorem Ny(h:gy os S){x:Nd}(hx:x∈S.dj):d8 (cx P aj cQ hd) (.ref S.hV) (.str x.nm) z ⟨fr,os⟩=af (.ref x.info,⟨fr,os⟩):=y5 h.dict (xZ h.names hx)
theorem Wx(h:gy os S)(hz:Zw z S)(v:Int):ec (cx P aj cQ hd) (.ref S.i) "_npassedout" (.int v) z ⟨fr,os⟩=af ((),⟨fr,os.set S.d (.ns (uZ S.hV (rdV S.rd) v S.fi))⟩):=by
 have:=th (P:=P) (aj:=aj) (cQ:=cQ) (hd:=hd) (fr:=fr) (v:=.int v) (a:=ah "_npassedout") h.inst h.ns (by exact iK rfl) hz.d (by rw [Jh];exact iK rfl);rw [Jh] at this;exact this
theorem Wy(h:gy os S)(hz:Zw z S)(v:Int):ec (cx P aj cQ hd) (.ref S.i) "_nfinished" (.int v) z ⟨fr,os⟩=af ((),⟨fr,os.set S.d (.ns (uZ S.hV (rdV S.rd) S.po v))⟩):=by
 have:=th (P:=P) (aj:=aj) (cQ:=cQ) (hd:=hd) (fr:=fr) (v:=.int v) (a:=ah "_nfinished") h.inst h.ns (by exact iK rfl) hz.d (by rw [Ji];exact iK rfl);rw [Ji] at this;exact this
theorem Wz(h:gy os S)(hz:Zw z S)(v:V):ec (cx P aj cQ hd) (.ref S.i) "_ready_nodes" v z ⟨fr,os⟩=af ((),⟨fr,os.set S.d (.ns (uZ S.hV v S.po S.fi))⟩):=by
 have:=th (P:=P) (aj:=aj) (cQ:=cQ) (hd:=hd) (fr:=fr) (v:=v) (a:=ah "_ready_nodes") h.inst h.ns (by exact iK rfl) hz.d (by rw [Jj];exact iK rfl);rw [Jj] at this;exact this
theorem HT(h:gy os S)(hr:S.rd=af (r,l)):cN P aj (n+1) (.top 106) [.ref S.i] os z=af (.ret (.bool (decide (S.fi<S.po)|| !l.isEmpty)),os):=by
 rw [zY];have a:=λfr=>h.attr (P:=P) (aj:=aj) (cQ:=cN P aj n) fr z ao;rw [hr] at a;have a1:=λfr=>(a fr).2.1;have a2:=λfr=>(a fr).2.2.1;have a3:=λfr=>(a fr).2.2.2;have o1:=h.rd r l hr;have a4:∀fr,dN (cy P aj n) (.type "bool") [.ref r] z ⟨fr,os⟩=af (.ret (.bool (!l.isEmpty)),⟨fr,os⟩):=λfr=>Ni (by
  refine Uh.trans ((ba (eC o1 z fr)).trans ?_);show af (BS (!(l.map bc).isEmpty),_)=_;rw [zr])
 have:lM (cy P aj n) z ⟨[("self",.ref S.i)],os⟩=af (.ret (.bool (decide (S.fi<S.po)|| !l.isEmpty)),⟨[("self",.ref S.i)],os⟩):=by
  by_cases hp:S.fi<S.po
  ·(delta lM;with_reducible repeat' (first|apply a1|apply a2|apply a3|exact br|apply bt|apply bq|apply bG|exact bb|exact aI|exact DY|apply aO|(apply pF;focus with_unfolding_all exact rfl)|(apply ite_no;focus exact bj)|(apply bW;focus exact decide_eq_true hp)|(apply CW<;>first|rfl|(simp only [mpure,yY,Cj,dR,uW,getF,putF,c8,eX,if_true,if_false,reduceIte,cU,dT,cR,fE,fk,reduceCtorEq,cmpC,isV,cP,a1,a2,a3,a4,rdV,hp,decide_true,Bool.true_or];done))))
  ·(delta lM;with_reducible repeat' (first|apply a1|apply a2|apply a3|exact dR _ _ _|exact br|apply bt|apply bq|apply bG|exact bb|exact aI|exact DY|apply aO|(apply pF;focus with_unfolding_all exact rfl)|(apply ite_no;focus exact bj)|(apply ite_no;focus exact nt (decide_eq_false hp))|with_unfolding_all apply a4|(apply CW<;>first|rfl|(simp only [mpure,yY,Cj,dR,uW,getF,putF,c8,eX,if_true,if_false,reduceIte,cU,dT,cR,fE,fk,reduceCtorEq,cmpC,isV,cP,a1,a2,a3,a4,rdV,hp,decide_false,Bool.false_or];done))))
 refine this▸ ?_;rfl
theorem Zw.Lo{S':Sr}(h:Zw z S)(h1:S'.dj.map (·.info)=S.dj.map (·.info))(h2:∀r∈Ck S'.rd,r∈Ck S.rd)(h3:S'.d=S.d):Zw z S':=by
 refine ⟨λx hx=>?_,λr hr=>h.rd r (h2 r hr),h3▸h.d⟩;have:x.info∈S'.dj.map (·.info):=aT.mpr ⟨x,hx,rfl⟩;rw [h1] at this;refine aR (aT.mp this) λy hy e=>?_;refine (e).symm▸ ?_;exact h.nd y hy
def z1(l:List NV)(ys:List Str):List NV:=ys.foldl (λl y=>kI y (-1) l) l
theorem x8(nm:Str)(v:Int)(l:List Nd):(upd nm (λy=>{y with np:=v}) l).map nv=kI nm v (l.map nv):=HM (g:=λe=>(e.1,v,e.2.2)) (λy=>rfl) l
theorem QB:∀{ys:List Str}{S:Sr}{fr:eB}{os:List O},gy os S->Zw z S->(∀y∈ys,y∈S.dj.map (·.nm))->getF fr "n2i" =af (.ref S.hV)->
  ∃et os' jv,fU (λv=>gV (cx P aj cQ ao) v) (ys.map .str) z ⟨fr,os⟩=af (.next,⟨et,os'⟩)/\(∀k,k≠ah "node" ->getF et k=getF fr k)/\gy os' {S with dj:=jv}/\mx os S os' {S with dj:=jv}/\jv.map nv=z1 (S.dj.map nv) ys/\jv.map (·.info)=S.dj.map (·.info):=by
 intro Ij;induction Ij with
 |nil=>
  intro S fr os h hz hy hn;exact ⟨fr,os,S.dj,rfl,λ_ _=>rfl,h,mx.refl,rfl,rfl⟩
 |cons y ys ih'=>
  intro S fr os h hz hy hn;refine aR (aT.mp (hy y (fm ..))) λx hx q'1=>?_;obtain rfl:=q'1;obtain ⟨h1,f1⟩:=h.Jf hx (-1);have a1:=λfr=>Ny (P:=P) (aj:=aj) (cQ:=cQ) (hd:=true) (z:=z) (fr:=fr) h hx;have a2:=λfr=>HS (P:=P) (aj:=aj) (cQ:=cQ) (hd:=true) (fr:=fr) h hz hx (-1);have e:gV (cx P aj cQ ao) (.str x.nm) z ⟨fr,os⟩=af (.next,⟨putF fr "node" (.str x.nm),os.set x.info (ED {x with np:= -1})⟩):=by
   (delta gV;with_reducible repeat' (first|apply hn|apply a1|apply a2|exact br|apply bt|apply bq|apply bG|apply bO|exact aE|apply av (by decide)|apply aO|rfl))
  have em:∀{α:Type}(g:Nd->α),(∀y:Nd,g {y with np:= -1}=g y)->(upd x.nm (λy=>{y with np:= -1}) S.dj).map g=S.dj.map g:=λg hg=>tj hg S.dj;refine dy (ih' (fr:=putF fr "node" (.str x.nm)) h1 (hz.Lo (em _ λ_=>rfl) (λ_ q=>q) rfl) (λa ha=>by show a∈sH _ (upd _ _ _);rw [em _ λ_=>rfl];exact hy a (i8 _ ha)) (by rw [b6,if_neg (by exact iK rfl)];exact hn)) λet os' jv r1 r2 r3 r4 r5 r6=>?_;refine ⟨et,os',jv,(ij (turn:=λv=>gV (cx P aj cQ ao) v) e).trans r1,λk hk=>?_,r3,f1.trans r4,?_,?_⟩
  ·rw [r2 k hk,b6];exact if_neg (by first|exact hk|exact λq=>hk q.symm)
  ·refine (r5).trans ?_;show z1 (sH nv (upd _ _ _)) ys=_;rw [x8];rfl
  ·refine (r6).trans ?_;exact em _ λ_=>rfl
theorem Nz(h:gy os S)(hr:S.rd=af (r,l))(hz:Bj z os S)(hl:∀y∈l,y∈S.dj.map (·.nm))(hs:l.length<=900):∃os' jv,cN P aj (n+1) (.top 99) [.ref S.i] os z=af (.ret (.ref os.length),os')/\os'[os.length]? =af (.tuple (l.map .str))/\
  gy os' {S with dj:=jv,rd:=af (r,[]),po:=S.po+l.length}/\mx os S os' {S with dj:=jv,rd:=af (r,[]),po:=S.po+l.length}/\os.length∉idx {S with dj:=jv,rd:=af (r,[]),po:=S.po+l.length}/\jv.map nv=z1 (S.dj.map nv) l:=by
 rw [zX];have a:=λfr=>h.attr (P:=P) (aj:=aj) (cQ:=cN P aj n) fr z ao;rw [hr] at a;have a1:=λfr=>(a fr).2.1;have o1:=h.rd r l hr;have a2:∀fr,dN (cy P aj n) (.type "tuple") [.ref r] z ⟨fr,os⟩=af (.ret (.ref os.length),⟨fr,os++ [.tuple (l.map .str)]⟩):=λfr=>Ni (by
  have:=dQ (o:=.tuple (l.map .str)) (by simp only [sizeOk,aH];exact decide_eq_true (by exact bR hs)) z fr os;exact Qv.trans ((ba (eC o1 z fr)).trans this))
 have h1:=h.grow [.tuple (l.map .str)];have f1:mx os S (os++ [.tuple (l.map .str)]) S:=mx.grow _;have a3:=λfr=>(h1.attr (P:=P) (aj:=aj) (cQ:=cN P aj n) fr z ao).1;have t1:(os++ [jk (l.map .str)])[os.length]? =af (.tuple (l.map .str)):=by simp
 have a4:=λfr=>src_tuple (P:=P) (aj:=aj) (cQ:=cN P aj n) (z:=z) (fr:=fr) t1;have tn:os.length∉idx S:=λq=>absurd (h.lt _ q) (aX _);have hz1:Bj (os.length::z) (os++ [.tuple (l.map .str)]) S:=λj hj=>by
  rcases jJ hj with rfl|hj
  ·exact ⟨aY t1,tn⟩
  ·exact ⟨ag (hz j hj).1 f1.len,(hz j hj).2⟩
 refine dy (QB (P:=P) (aj:=aj) (cQ:=cN P aj n) (ys:=l) (fr:=[(ah "self",.ref S.i),(ah "result",.ref os.length),(ah "n2i",.ref S.hV)]) h1 hz1.zw hl (by rfl)) λkN dc Iq r1 r2 r3 r4 r5 r6=>?_;have r1':dk (af os.length) (fU (λv=>gV (cy P aj n) v) (l.map bc)) z ⟨[("self",.ref S.i),("result",.ref os.length),("n2i",.ref S.hV)],os++ [.tuple (l.map .str)]⟩=_:=r1;have g1:getF kN "self" =af (.ref S.i):=by refine (r2 _ (by simp [c8])).trans ?_;rfl
 have g2:getF kN "result" =af (.ref os.length):=by refine (r2 _ (by simp [c8])).trans ?_;rfl
 have b:=λfr=>r3.attr (P:=P) (aj:=aj) (cQ:=cN P aj n) fr z ao;have e2:({S with dj:=Iq}:Sr).rd=af (r,l):=hr;rw [e2] at b;have b1:=λfr=>(b fr).2.1;have o2:=r3.rd r l e2;have b2:=λfr=>k9 (c:=cy P aj n) (z:=z) (fr:=fr) o2 M6;have hz2:Zw z ({S with dj:=Iq}:Sr):=hz.zw.Lo r6 (λ_ q=>q) rfl;have b3:=λfr=>Qt (c:=cy P aj n) (z:=z) (fr:=fr) o2 (hz2.rd r (by refine e2▸ ?_;exact fm));obtain ⟨h3,f3⟩:=r3.R4 e2 [];have t2:dc[os.length]? =af (.tuple (l.map .str)):=(r4.keep _ (aY t1) tn).trans t1;have tn2:os.length∉idx {S with dj:=Iq}:=λq=>(r4.idx _ q).elim tn λq=>absurd (aY t1) (cD.mpr q);have t3:(dc.set r (.list []))[os.length]? =af (.tuple (l.map .str)):=(f3.keep _ (aY t2) tn2).trans t2;have tn3:=λq=>(f3.idx os.length q).elim tn2 λq=>absurd (aY t2) (cD.mpr q);have c1:=λfr=>(h3.attr (P:=P) (aj:=aj) (cQ:=cN P aj n) fr z ao).2.2.1;have c2:=λfr=>Jl (P:=P) (aj:=aj) (cQ:=cN P aj n) (z:=z) (fr:=fr) (.inr t3);rw [aH] at c2;have GG:Zw z ({S with dj:=Iq,rd:=af (r,[])}:Sr):=hz2.Lo rfl (λq hq=>by refine e2▸ ?_;exact hq) rfl;have c3:=λfr=>Wx (P:=P) (aj:=aj) (cQ:=cN P aj n) (hd:=true) (fr:=fr) h3 GG (S.po+l.length);obtain ⟨h4,f4⟩:=h3.R3 (S.po+l.length) S.fi;have t4:=(f4.keep _ (aY t3) tn3).trans t3;have tn4:=λq=>(f4.idx os.length q).elim tn3 λq=>absurd (aY t3) (cD.mpr q);refine ⟨_,Iq,?_,t4,h4,((f1.trans r4).trans f3).trans f4,tn4,r5⟩;have:ph (cy P aj n) z ⟨[("self",.ref S.i)],os⟩=af (.ret (.ref os.length),⟨kN,(dc.set r (.list [])).set S.d (.ns (uZ S.hV (.ref r) (S.po+l.length) S.fi))⟩):=by
  have b1':∀fr,eE (cy P aj n) (.ref S.i) "_ready_nodes" z ⟨fr,dc⟩=_:=b1;have Yz:∀fr,eE (cy P aj n) (.ref S.i) "_npassedout" z ⟨fr,dc.set r (.list [])⟩=_:=c1;have c2':∀fr,dN (cy P aj n) (.bi "len") [.ref os.length] z ⟨fr,dc.set r (.list [])⟩=_:=c2;have ZZ:∀fr,ec (cy P aj n) (.ref S.i) "_npassedout" (.int (S.po+l.length)) z ⟨fr,dc.set r (.list [])⟩=_:=c3;(delta ph;with_reducible repeat' (first|apply a1|apply a3|apply a4|apply r1'|apply g1|apply g2|apply b1'|apply Yz|apply ZZ|exact dR _ _ _|exact br|apply bt|apply bq|apply bG|apply bO|exact bb|apply bh (by decide)|exact fe|apply fP (by decide)|exact aI|exact DZ|apply aO|(apply b8;apply bX)|(apply pF;focus with_unfolding_all exact rfl)|(apply ite_no;focus exact bj)|with_unfolding_all apply a2|with_unfolding_all apply b2|with_unfolding_all apply b3|with_unfolding_all apply c2'|with_unfolding_all rfl))
 refine this▸ ?_;rfl
def y6(p:List NV × List Str)(y:Str):List NV × List Str:=(kI y (kM p.1 y-1) p.1,if kM p.1 y-1=0 then p.2++ [y] else p.2)
theorem QC:∀{ys:List Str}{S:Sr}{fr:eB}{os:List O}{l:List Str},gy os S->S.rd=af (r,l)->Zw z S->(∀y∈ys,y∈S.dj.map (·.nm))->l.length+ys.length<=900->getF fr "n2i" =af (.ref S.hV)->getF fr "self" =af (.ref S.i)->
  ∃et os' jv l',fU (λv=>ig (cx P aj cQ ao) v) (ys.map .str) z ⟨fr,os⟩=af (.next,⟨et,os'⟩)/\(∀k,k≠ah "successor" ->k≠ah "successor_info" ->getF et k=getF fr k)/\gy os' {S with dj:=jv,rd:=af (r,l')}/\mx os S os' {S with dj:=jv,rd:=af (r,l')}/\(jv.map nv,l')=ys.foldl y6 (S.dj.map nv,l)/\jv.map (·.info)=S.dj.map (·.info):=by
 intro Ij;induction Ij with
 |nil=>
  intro S fr os l h hr hz hy hs hn hS;exact ⟨fr,os,S.dj,l,rfl,λ_ _ _=>rfl,by refine (hr).symm▸ ?_;exact h,by refine (hr).symm▸ ?_;exact mx.refl,rfl,rfl⟩
 |cons y ys ih'=>
  intro S fr os l h hr hz hy hs hn hS;refine aR (aT.mp (hy y (fm ..))) λx hx q'1=>?_;obtain rfl:=q'1;simp only [aU] at hs;obtain ⟨h1,f1⟩:=h.Jf hx (x.np-1);have a1:=λfr=>Ny (P:=P) (aj:=aj) (cQ:=cQ) (hd:=true) (z:=z) (fr:=fr) h hx;have a2:=λfr=>Eb (P:=P) (aj:=aj) (cQ:=cQ) (hd:=true) (z:=z) (fr:=fr) h hx;have a3:=λfr=>HS (P:=P) (aj:=aj) (cQ:=cQ) (hd:=true) (fr:=fr) h hz hx (x.np-1);have em:∀{α:Type}(g:Nd->α),(∀y:Nd,g {y with np:=x.np-1}=g y)->(upd x.nm (λy=>{y with np:=x.np-1}) S.dj).map g=S.dj.map g:=λg hg=>tj hg S.dj;have hz1:Zw z ({S with dj:=upd x.nm (λy=>{y with np:=x.np-1}) S.dj}:Sr):=hz.Lo (em _ λ_=>rfl) (λ_ q=>q) rfl;have qk:({x with np:=x.np-1}:Nd)∈({S with dj:=upd x.nm (λy=>{y with np:=x.np-1}) S.dj}:Sr).dj:=Jm (f:=λy=>{y with np:=x.np-1}) hx rfl;have a4:∀fr,eE (cx P aj cQ ao) (.ref x.info) "npredecessors" z ⟨fr,os.set x.info (ED {x with np:=x.np-1})⟩=af (.int (x.np-1),⟨fr,os.set x.info (ED {x with np:=x.np-1})⟩):=λfr=>Eb (P:=P) (aj:=aj) (cQ:=cQ) (hd:=true) (z:=z) (fr:=fr) (x:={x with np:=x.np-1}) h1 qk;have hd1:y6 (S.dj.map nv,l) x.nm=(kI x.nm (x.np-1) (S.dj.map nv),if x.np-1=0 then l++ [x.nm] else l):=by
   dsimp only [y6];exact (Nw h.names hx)▸rfl
  have nms:∀a∈ys,a∈(upd x.nm (λy=>{y with np:=x.np-1}) S.dj).map (·.nm):=λa ha=>by rw [em _ λ_=>rfl];exact hy a (i8 _ ha)
  have gf:∀k,k≠ah "successor" ->k≠ah "successor_info" ->getF (putF (putF fr "successor" (.str x.nm)) "successor_info" (.ref x.info)) k=getF fr k:=λk k1 k2=>by
   rw [b6,if_neg k2,b6,if_neg k1]
  by_cases hc:x.np-1=0
  ·--it is ready
   rw [if_pos hc] at hd1;have e2:({S with dj:=upd x.nm (λy=>{y with np:=x.np-1}) S.dj}:Sr).rd=af (r,l):=hr;have b:=λfr=>(h1.attr (P:=P) (aj:=aj) (cQ:=cQ) fr z ao).2.1;rw [e2] at b;have b1:∀fr,eE (cx P aj cQ ao) (.ref S.i) "_ready_nodes" z ⟨fr,os.set x.info (ED {x with np:=x.np-1})⟩=_:=b;have o2:=h1.rd r l e2;have b2:=λfr=>k9 (c:=cx P aj cQ ao) (z:=z) (fr:=fr) o2 mJ;have b3:=λfr=>pG (c:=cx P aj cQ ao) (z:=z) (fr:=fr) (v:=.str x.nm) o2 (hz1.rd r (by refine e2▸ ?_;exact fm)) (by rw [aH];exact qi (RE hs) rfl);obtain ⟨h2,f2⟩:=h1.R4 e2 (l++ [x.nm]);have e3:(l.map bc++ [bc x.nm])=(l++ [x.nm]).map bc:=by simp
   rw [e3] at b3;have e:ig (cx P aj cQ ao) (.str x.nm) z ⟨fr,os⟩=af (.next,⟨putF (putF fr "successor" (.str x.nm)) "successor_info" (.ref x.info),(os.set x.info (ED {x with np:=x.np-1})).set r (.list ((l++ [x.nm]).map bc))⟩):=by
    have hc':decide (x.np-1=0)=ao:=decide_eq_true hc;(delta ig;with_reducible repeat' (first|apply hn|apply hS|apply a1|apply a2|apply a3|apply a4|apply eq_int|apply b1|exact dR _ _ _|exact br|apply bt|apply bq|apply bG|apply bO|exact aE|apply av (by decide)|exact aI|exact Jc|apply kH|apply aO|(apply b8;apply bX)|rfl|with_unfolding_all apply b2|with_unfolding_all apply b3|(apply bW;focus (simp only [mpure,yY,Cj,dR,uW,b6,c8,eX,if_true,if_false,reduceIte,cU,dT,cR,fE,fk,reduceCtorEq,cmpC,isV,cP,hn,hS,a1,a2,ES,a3,a4,eq_int,hc',b1,rdV,b2,bX,b3];done))))
   refine kh (ih' (fr:=putF (putF fr "successor" (.str x.nm)) "successor_info" (.ref x.info)) h2 rfl (hz1.Lo rfl (λq hq=>by refine e2▸ ?_;exact hq) rfl) nms (by simp;exact VB hs) (by refine (gf _ (by simp [c8]) (by simp [c8])).trans ?_;exact hn) (by refine (gf _ (by simp [c8]) (by simp [c8])).trans ?_;exact hS)) λet os' jv l' r1 r2 r3 r4 r5 r6=>?_;refine ⟨et,os',jv,l',(ij (turn:=λv=>ig (cx P aj cQ ao) v) e).trans r1,λk k1 k2=>(r2 k k1 k2).trans (gf k k1 k2),r3,(f1.trans f2).trans r4,?_,?_⟩
   ·rw [r5,fO,hd1];show pT _ (sH nv (upd _ _ _),_) _=_;rw [x8]
   ·refine (r6).trans ?_;exact em _ λ_=>rfl
  ·rw [if_neg hc] at hd1;have e:ig (cx P aj cQ ao) (.str x.nm) z ⟨fr,os⟩=af (.next,⟨putF (putF fr "successor" (.str x.nm)) "successor_info" (.ref x.info),os.set x.info (ED {x with np:=x.np-1})⟩):=by
    have hc':decide (x.np-1=0)=bf:=decide_eq_false hc;(delta ig;with_reducible repeat' (first|apply hn|apply a1|apply a2|apply a3|apply a4|apply eq_int|exact br|apply bt|apply bq|apply bG|apply bO|exact aE|apply av (by decide)|exact aI|exact Jc|apply kH|apply aO|rfl|(apply ite_no;focus exact nt hc')))
   refine kh (ih' (l:=l) (fr:=putF (putF fr "successor" (.str x.nm)) "successor_info" (.ref x.info)) h1 hr hz1 nms (by exact bS hs) (by refine (gf _ (by simp [c8]) (by simp [c8])).trans ?_;exact hn) (by refine (gf _ (by simp [c8]) (by simp [c8])).trans ?_;exact hS)) λet os' jv l' r1 r2 r3 r4 r5 r6=>?_;refine ⟨et,os',jv,l',(ij (turn:=λv=>ig (cx P aj cQ ao) v) e).trans r1,λk k1 k2=>(r2 k k1 k2).trans (gf k k1 k2),r3,f1.trans r4,?_,?_⟩
   ·rw [r5,fO,hd1];show pT _ (sH nv (upd _ _ _),_) _=_;rw [x8]
   ·refine (r6).trans ?_;exact em _ λ_=>rfl
theorem gy.Y6(h:gy os S)(hz:Zw z S){x:Nd}(hx:x∈S.dj):Zw (x.su::z) S:=by
 refine ⟨λy hy q=>?_,λr hr q=>?_,λq=>?_⟩
 ·rcases jJ q with q|q
  ·by_cases e:x.nm=y.nm
   ·have:=vH h.names hx hy e;subst this;exact (h.ndn hx).2.1 q
   ·exact h.apart hx hy e x.su (by simp [nE]) (by rw [←q];exact fm)
  ·exact hz.nd y hy q
 ·rcases jJ q with q|q
  ·exact (h.head hx (a:=x.su) (by simp [nE])).2.2.2 (q▸hr)
  ·exact hz.rd r hr q
 ·rcases jJ q with q|q
  ·exact (h.head hx (a:=x.su) (by simp [nE])).2.1 q.symm
  ·exact hz.d q
theorem K3(h:gy os S)(hr:S.rd=af (r,l))(hz:Zw z S){x:Nd}(hx:x∈S.dj)(hnp:x.np= -1)(hcl:∀y∈x.ss,y∈S.dj.map (·.nm))(hs:l.length+x.ss.length<=900)(hn:getF fr "n2i" =af (.ref S.hV))(hS:getF fr "self" =af (.ref S.i)):
  ∃et os' jv l',lD (cx P aj cQ ao) (.str x.nm) z ⟨fr,os⟩=af (.next,⟨et,os'⟩)/\gy os' {S with dj:=jv,rd:=af (r,l'),fi:=S.fi+1}/\mx os S os' {S with dj:=jv,rd:=af (r,l'),fi:=S.fi+1}/\(jv.map nv,l')=x.ss.foldl y6 (kI x.nm (-2) (S.dj.map nv),l)/\getF et "n2i" =af (.ref S.hV)/\getF et "self" =af (.ref S.i)/\jv.map (·.info)=S.dj.map (·.info):=by
 have a1:=λfr=>Aj (c:=cx P aj cQ ao) (z:=z) (fr:=fr) h.dict D0;have a2:=λfr=>Nf (c:=cx P aj cQ ao) (z:=z) (fr:=fr) (k:=x.nm) h.dict;rw [xZ h.names hx] at a2;have a3:=λfr=>Eb (P:=P) (aj:=aj) (cQ:=cQ) (hd:=true) (z:=z) (fr:=fr) h hx;rw [hnp] at a3;have a4:=λfr=>HS (P:=P) (aj:=aj) (cQ:=cQ) (hd:=true) (fr:=fr) h hz hx (-2);obtain ⟨h1,f1⟩:=h.Jf hx (-2);have em:∀{α:Type}(g:Nd->α),(∀y:Nd,g {y with np:= -2}=g y)->(upd x.nm (λy=>{y with np:= -2}) S.dj).map g=S.dj.map g:=λg hg=>tj hg S.dj;have hz1:Zw z ({S with dj:=upd x.nm (λy=>{y with np:= -2}) S.dj}:Sr):=hz.Lo (em _ λ_=>rfl) (λ_ q=>q) rfl;have qk:({x with np:= -2}:Nd)∈({S with dj:=upd x.nm (λy=>{y with np:= -2}) S.dj}:Sr).dj:=Jm (f:=λy=>{y with np:= -2}) hx rfl;have a5:∀fr,eE (cx P aj cQ ao) (.ref x.info) "successors" z ⟨fr,os.set x.info (ED {x with np:= -2})⟩=af (.ref x.su,⟨fr,os.set x.info (ED {x with np:= -2})⟩):=λfr=>Um (P:=P) (aj:=aj) (cQ:=cQ) (hd:=true) (z:=z) (fr:=fr) (x:={x with np:= -2}) h1 qk;have o1:(os.set x.info (ED {x with np:= -2}))[x.su]? =af (.list (x.ss.map .str)):=(h1.nd _ qk).2.2;have a6:=λfr=>src_list (P:=P) (aj:=aj) (cQ:=cQ) (z:=z) (fr:=fr) o1;have hz2:Zw (x.su::z) ({S with dj:=upd x.nm (λy=>{y with np:= -2}) S.dj}:Sr):=h1.Y6 (x:={x with np:= -2}) hz1 qk;have gf:∀k,k≠ah "node" ->k≠ah "nodeinfo" ->k≠ah "stat" ->getF (putF (putF (putF fr "node" (.str x.nm)) "nodeinfo" (.ref x.info)) "stat" (.int (-1))) k=getF fr k:=λk k1 k2 k3=>by
  rw [b6,if_neg k3,b6,if_neg k2,b6,if_neg k1]
 have g1:=gf "n2i" (by exact iK rfl) (by exact iK rfl) (by exact iK rfl);have g2:=gf "self" (by exact iK rfl) (by exact iK rfl) (by exact iK rfl);refine kh (QC (P:=P) (aj:=aj) (cQ:=cQ) (ys:=x.ss) (l:=l) (fr:=putF (putF (putF fr "node" (.str x.nm)) "nodeinfo" (.ref x.info)) "stat" (.int (-1))) h1 hr hz2 (λa ha=>by show a∈sH _ (upd _ _ _);rw [em _ λ_=>rfl];exact hcl a ha) (by omega) (g1.trans hn) (g2.trans hS)) λet os' jv l' r1 r2 r3 r4 r5 r6=>?_;have r1':dk (af x.su) (fU (λv=>ig (cx P aj cQ ao) v) (x.ss.map bc)) z ⟨putF (putF (putF fr "node" (.str x.nm)) "nodeinfo" (.ref x.info)) "stat" (.int (-1)),os.set x.info (ED {x with np:= -2})⟩=_:=r1;have k1:=(r2 "n2i" (by exact iK rfl) (by exact iK rfl)).trans (g1.trans hn);have k2:=(r2 "self" (by exact iK rfl) (by exact iK rfl)).trans (g2.trans hS);have b1:∀fr,eE (cx P aj cQ ao) (.ref S.i) "_nfinished" z ⟨fr,os'⟩=af (.int S.fi,⟨fr,os'⟩):=λfr=>(r3.attr (P:=P) (aj:=aj) (cQ:=cQ) fr z ao).2.2.2;have GG:Zw z ({S with dj:=jv,rd:=af (r,l')}:Sr):=hz1.Lo r6 (λq hq=>by show q∈Ck S.rd;refine hr▸ ?_;exact hq) rfl;have b2:∀fr,ec (cx P aj cQ ao) (.ref S.i) "_nfinished" (.int (S.fi+1)) z ⟨fr,os'⟩=af ((),⟨fr,os'.set S.d (.ns (uZ S.hV (.ref r) S.po (S.fi+1)))⟩):=λfr=>Wy (P:=P) (aj:=aj) (cQ:=cQ) (hd:=true) (fr:=fr) r3 GG (S.fi+1);obtain ⟨h4,f4⟩:=r3.R3 S.po (S.fi+1);refine ⟨et,os'.set S.d (.ns (uZ S.hV (.ref r) S.po (S.fi+1))),jv,l',?_,h4,(f1.trans r4).trans f4,?_,k1,k2,r6.trans (em _ λ_=>rfl)⟩
 ·(delta lD;with_reducible repeat' (first|apply hn|apply a1|apply a2|apply eq_int|apply a6|apply k2|apply b1|apply b2|exact dR _ _ _|exact br|apply bt|apply bq|apply bG|apply bO|exact aE|apply av (by decide)|exact aI|exact DZ|apply yZ|apply aO|(apply b8;apply bX)|(apply pF;focus with_unfolding_all exact rfl)|(apply ite_no;focus exact bj)|(apply ite_no;focus decide)|rfl|with_unfolding_all apply a3|with_unfolding_all apply a4|with_unfolding_all apply a5|with_unfolding_all apply r1'))
 ·refine (r5).trans ?_;show pT _ (sH nv (upd _ _ _),_) _=_;rw [x8]
noncomputable def gm(l:List NV):List Str:=(l.filter λe=>decide (e.2.1=0)).map (·.1)
theorem Hi.Nn(h:gy os S)(hi:Hi os.length os os'):gy os' S/\mx os S os' S:=⟨h.of_same λj hj=>hi.keep j (h.lt j hj),⟨hi.len,λj hj _=>hi.keep j hj,λj hj=>.inl hj⟩⟩
theorem NA{acc:Nat}{uq:eB}(ha:acc∉idx S)(hza:acc∉z):∀{ns:List Nd}{fr:eB}{os:List O}{L:List Str},gy os S->(∀x∈ns,x∈S.dj)->os[acc]? =af (.list (L.map .str))->L.length+ns.length<=900->
  ∃et,fu (λv=>fF (cx P aj cQ ao) uq acc v) (ns.map λx=>.ref x.info) z ⟨fr,os⟩=af ((),⟨et,os.set acc (.list ((L++gm (ns.map nv)).map .str))⟩):=by
 intro Ij;induction Ij with
 |nil=>
  intro fr os L h hn hL hs;refine ⟨fr,?_⟩;have:os.set acc (.list ((L++gm (([]:List Nd).map nv)).map .str))=os:=by
   have e:L++gm (([]:List Nd).map nv)=L:=by exact bB _
   rw [e];exact List.ext_getElem? λi=>by
    by_cases q:acc=i
    ·subst q;rw [dA hL,hL]
    ·exact (bH q)
  rw [this];rfl
 |cons x ns ih'=>
  intro fr os L h hn hL hs;have hx:=hn x (fm ..);simp only [aU] at hs;have a1:=λfr=>Eb (P:=P) (aj:=aj) (cQ:=cQ) (hd:=true) (z:=z) (fr:=fr) h hx;have a2:=λfr=>Un (P:=P) (aj:=aj) (cQ:=cQ) (hd:=true) (z:=z) (fr:=fr) h hx;have o1:=λfr=>eC (c:=cx P aj cQ ao) hL z fr;have st:=λfr=>lQ (o:=.list (L.map .str++ [.str x.nm])) hL (by simp only [sizeOk,aq,aH,aU,gF];exact decide_eq_true (qi (RE hs) rfl)) hza fr;have tc:fu (λv=>fF (cx P aj cQ ao) uq acc v) ((x::ns).map λx=>.ref x.info)=(fF (cx P aj cQ ao) uq acc (.ref x.info)>>=λ_=>fu (λv=>fF (cx P aj cQ ao) uq acc v) (ns.map λx=>.ref x.info)):=rfl;by_cases hc:x.np=0
  ·have e1:fF (cx P aj cQ ao) uq acc (.ref x.info) z ⟨fr,os⟩=af ((),⟨putF fr "i" (.ref x.info),os.set acc (.list ((L++ [x.nm]).map .str))⟩):=by
    have e3:(L++ [x.nm]).map bc=L.map bc++ [bc x.nm]:=by simp
    refine e3▸ ?_;(delta fF;with_reducible repeat' (first|apply a1|apply eq_int|apply a2|apply o1|apply st|exact br|apply bq|apply bG|apply bO|exact aE|exact aI|apply kH|(apply bW;focus rfl)|rfl|delta i4|(apply bW;focus (simp only [mpure,yY,Cj,dR,uW,b6,c8,eX,if_true,if_false,reduceIte,cU,dT,cR,fE,fk,reduceCtorEq,cmpC,isV,cP,a1,eq_int,hc,decide_true,a2,i4,o1,st];done))))
   obtain ⟨et,q⟩:=ih' (fr:=putF fr "i" (.ref x.info)) (L:=L++ [x.nm]) (h.other ha (.list ((L++ [x.nm]).map .str))) (λy hy=>hn y (i8 _ hy)) (dA hL) (by simp;exact VB hs);refine ⟨et,?_⟩;rw [tc,ba e1,q];have e4:L++ [x.nm]++gm (ns.map nv)=L++gm ((x::ns).map nv):=by
    have:(nv x).2.1=0:=hc;simp only [gm,bx,ky,this,decide_true,if_true];simp [nv]
   rw [e4,oD]
  ·have e1:fF (cx P aj cQ ao) uq acc (.ref x.info) z ⟨fr,os⟩=af ((),⟨putF fr "i" (.ref x.info),os⟩):=by
    have hc':decide (x.np=0)=bf:=decide_eq_false hc;(delta fF;with_reducible repeat' (first|apply a1|apply eq_int|exact br|apply bq|apply bG|apply bO|exact aE|exact aI|apply kH|(apply ite_no;focus exact bj)|rfl|(apply ite_no;focus exact nt hc')))
   obtain ⟨et,q⟩:=ih' (fr:=putF fr "i" (.ref x.info)) (L:=L) h (λy hy=>hn y (i8 _ hy)) hL (by exact bS hs);refine ⟨et,?_⟩;rw [tc,ba e1,q];have e4:gm (ns.map nv)=gm ((x::ns).map nv):=by
    have:decide ((nv x).2.1=0)=bf:=decide_eq_false hc;simp only [gm,bx,ky,this];rfl
   exact (e4)▸rfl
theorem HU(h:os[i]? =af (.values d))(h2:os[d]? =af (.dict es)):gN (cx P aj cQ ao) (.ref i) z ⟨fr,os⟩=af (⟨es.map λe=>e.2,af d⟩,⟨fr,os⟩):=Nl ((ba (eC h z fr)).trans (ba (eC h2 z fr)))
def PrR(os':List O)(S':Sr):CR->Option (List Str)->Prop
 | .ret v,ae=>v= .none
 | .exc e,af ring=>∃t i,os'[e]? =af (.exc 55 t)/\os'[t]? =af (.tuple [.str "nodes are in a cycle",.ref i])/\os'[i]? =af (.list (ring.map .str))/\i∉idx S'
 |_,_=>False
theorem FU(h:gy os S)(h0:S.rd=ae)(cl:Cl S g)(hz:Bj z os S){m:Nat}(hn:n<=200)(hr:findP g n (S.dj.map (·.nm)) []=af rg)(hne:∀ring,rg=af ring->ring≠ []):
  ∃os' c rd,cN P aj (m+2) (.top 92) [.ref S.i] os z=af (c,os')/\PrR os' {S with rd:=af (rd,gm (S.dj.map nv))} c rg/\gy os' {S with rd:=af (rd,gm (S.dj.map nv))}/\mx os S os' {S with rd:=af (rd,gm (S.dj.map nv))}:=by
 rw [Cg];have a:=λfr=>h.attr (P:=P) (aj:=aj) (cQ:=cN P aj (m+1)) fr z ao;rw [h0] at a;have a1:=λfr=>(a fr).2.1;have a2:=λfr=>(a fr).1;have a3:=λfr=>Aj (c:=cy P aj (m+1)) (z:=z) (fr:=fr) h.dict KY;have a4:=λfr=>Ng (c:=cy P aj (m+1)) (z:=z) (fr:=fr) h.dict;have h1:=h.grow [.values S.hV];have v1:(os++ [vr S.hV])[os.length]? =af (.values S.hV):=by simp
 have a5:=λfr=>HU (P:=P) (aj:=aj) (cQ:=cN P aj (m+1)) (z:=z) (fr:=fr) v1 h1.dict;have ek:(S.dj.map λx=>(x.nm,iu x.info)).map (λe=>e.2)=S.dj.map λx=>iu x.info:=by simp
 rw [ek] at a5;have a6:=λfr=>dQ (o:=.list []) (by decide) z fr (os++ [.values S.hV]);have h2:=h1.grow [.list []];have hacc:(os++ [vr S.hV]).length=os.length+1:=by exact aq
 rw [hacc] at a6;have an:os.length+1∉idx S:=λq=>absurd (h.lt _ q) (iw);have az:os.length+1∉S.hV::z:=λq=>by
  rcases jJ q with q|q
  ·have:=h.lt S.hV (by simp [idx]);exact (iw (q▸this)).elim
  ·have:=(hz _ q).1;exact (iw this).elim
 have o2:(os++ [vr S.hV]++ [cA []])[os.length+1]? =af (.list (([]:List Str).map .str)):=by
  refine (bT (by simp)).trans ?_;simp
 obtain ⟨kN,e2⟩:=NA (P:=P) (aj:=aj) (cQ:=cN P aj (m+1)) (uq:=fh []) an az (ns:=S.dj) (fr:=[]) h2 (λx hx=>hx) o2 (by have:=cl.len;simp;exact bR this);rw [dS] at e2;have h3:=h2.other an (.list ((gm (S.dj.map nv)).map .str));have o3:((os++ [vr S.hV]++ [cA []]).set (os.length+1) (.list ((gm (S.dj.map nv)).map .str)))[os.length+1]? =af (.list ((gm (S.dj.map nv)).map .str)):=dA o2;have f3:mx os S ((os++ [vr S.hV]++ [cA []]).set (os.length+1) (.list ((gm (S.dj.map nv)).map .str))) S:=by
  refine ⟨by simp,λj hj _=>?_,λj hj=>.inl hj⟩;(refine (bH ((OX hj).symm)).trans ?_;refine (aJ (by simp;exact gA hj)).trans ?_;exact (aJ hj))
 generalize XY:(os++ [vr S.hV]++ [cA []]).set (os.length+1) (.list ((gm (S.dj.map nv)).map .str))=iI at*;have b1:=λfr=>Wz (P:=P) (aj:=aj) (cQ:=cN P aj (m+1)) (hd:=true) (fr:=fr) h3 hz.zw (.ref (os.length+1));have h4:=h3.Wq o3 an h0;have f4:mx os S (iI.set S.d (.ns (uZ S.hV (.ref (os.length+1)) S.po S.fi))) {S with rd:=af (os.length+1,gm (S.dj.map nv))}:=by
  refine (f3.trans (mx.set (by simp [idx]) _)).Lo λj hj=>?_;simp only [idx,h0,Ck,aZ,aG,de,or_false,false_or] at hj ⊢;rcases hj with q|q|q|q|q
  ·exact .inl (.inl q)
  ·exact .inl (.inr (.inl q))
  ·exact .inl (.inr (.inr (.inl q)))
  ·right;exact eN (ar q.symm)
  ·exact .inl (.inr (.inr (.inr q)))
 generalize Gw:iI.set S.d (.ns (uZ S.hV (.ref (os.length+1)) S.po S.fi))=yg at*;have b2:∀fr,ez (cy P aj (m+1)) (.ref S.i) "_find_cycle" z ⟨fr,yg⟩=_:=λfr=>h4.D2 (xV P) (by rfl) fr z ao;have b3:=λfr o=>tm (P:=P) (aj:=aj) (cQ:=cN P aj (m+1)) (z:=z) (fr:=fr) (os:=yg) (o:=o) (as:=[]) (jc (xV P));have cl':Cl {S with rd:=af (os.length+1,gm (S.dj.map nv))} g:=⟨cl.ss,cl.cl,cl.len⟩;refine ck (FT (P:=P) (aj:=aj) (m:=m) (z:=z) h4 cl' (λj hj=>ag (hz j hj).1 f4.len) hn hr) λEF v c1 c2 c3=>?_;obtain ⟨h5,f5⟩:=c2.Nn h4;have Yz:cN P aj (m+1) (.top 127) [.ref S.i] yg z=af (.ret v,EF):=c1;have GH:uO (cy P aj (m+1)) (fh []) (os.length+1) ⟨S.dj.map λx=>iu x.info,af S.hV⟩ z ⟨[],os++ [.values S.hV]++ [.list []]⟩=af ((),⟨kN,iI⟩):=e2;induction rg using aw with
 |none=>
  have ZZ:v= .none:=c3;subst ZZ;refine ⟨EF,.ret .none,os.length+1,?_,rfl,h5,f4.trans f5⟩;have:lL (cy P aj (m+1)) z ⟨[("self",.ref S.i)],os⟩=af (.next,⟨[("self",.ref S.i),("cycle",.none)],EF⟩):=by
   (delta lL;with_reducible repeat' (first|apply a1|apply a2|apply a3|apply a4|apply a5|apply xW hacc GH|apply b1|apply b2|exact br|apply bt|apply bq|apply bG|apply bO|exact bb|apply bh (by decide)|apply fP (by decide)|exact fe|exact aI|exact Bg|apply aO|(apply b8;apply bX)|(apply gE;apply b3)|exact Yz|exact dR _ _ _|(apply rQ;focus with_unfolding_all exact rfl)|(apply ite_no;focus exact bj)|with_unfolding_all rfl))
  refine this▸ ?_;rfl
 |some ring=>
  refine cO c3 λi q'1 o5 hi=>?_;obtain rfl:=q'1;have hb:ring.isEmpty=bf:=by
   have:=hne ring rfl;induction ring using aC with
   |nil=>exact absurd rfl this
   |cons=>rfl
  have t1:∀fr,cP (cy P aj (m+1)) (.ref i) z ⟨fr,EF⟩=af (ao,⟨fr,EF⟩):=λfr=>(Nq o5).trans (by rw [zr,hb];rfl);refine ⟨EF++ [.tuple [.str "nodes are in a cycle",.ref i]]++ [.exc 55 EF.length],.exc (EF.length+1),os.length+1,?_,⟨EF.length,i,?_,?_,bI (bI o5),λq=>absurd (h4.lt i q) (cD.mpr hi)⟩,(h5.grow _).grow _,(f4.trans f5).trans ((mx.grow _).trans (mx.grow _))⟩
  ·have:lL (cy P aj (m+1)) z ⟨[("self",.ref S.i)],os⟩=af (.exc (EF.length+1),⟨[("self",.ref S.i),("cycle",.ref i)],EF++ [.tuple [.str "nodes are in a cycle",.ref i]]++ [.exc 55 EF.length]⟩):=by
    (delta lL;with_reducible repeat' (first|apply a1|apply a2|apply a3|apply a4|apply a5|apply xW hacc GH|apply b1|apply b2|exact br|apply bt|apply bq|apply bG|apply bO|exact bb|apply bh (by decide)|apply fP (by decide)|exact fe|exact aI|exact Bg|apply aO|(apply b8;apply bX)|(apply gE;apply b3)|exact Yz|exact dR _ _ _|(apply rQ;focus with_unfolding_all exact rfl)|apply t1|apply KS rfl|exact M3|(apply ite_no;focus exact bj)|(apply bW;focus rfl)|with_unfolding_all rfl))
   refine this▸ ?_;rfl
  ·refine (bT (by simp)).trans ?_;simp
  ·rw [aQ,bT (by exact ax _)];simp
def y7(g:Str->List Str)(n:Nat)(st:PS)(seen:List Str):Option (List Str ⊕ List Str):=match D9 st with
 |none=>af (.inr seen)
 |some p=>wX g n p.1 p.2 seen
noncomputable def wt(g:Str->List Str)(na seen:List Str):Nat:=((na.filter λx=>decide (x∉seen)).map λx=>(g x).length).sum
section
variable{na:List Str}{rk:Str->Nat}
theorem NB{st:PS}(h:y∈seen)(h':y∉st.map (·.1)):wX g (n+1) y st seen=y7 g n st seen:=by
 show (if y∈seen then _ else _)=_;(refine (if_pos h).trans ?_;refine (if_neg h').trans ?_);unfold y7;cases D9 st<;>rfl
theorem Jt{st:PS}(h:y∉seen):wX g (n+1) y st seen=y7 g n ((y,g y)::st) (seen++ [y]):=by
 show (if y∈seen then _ else _)=_;refine (if_neg h).trans ?_;unfold y7;cases D9 ((y,g y)::st)<;>rfl
theorem NC{st:PS}(h:y∈seen)(h':y∈st.map (·.1)):wX g (n+1) y st seen=af (.inl (pJ (st.map (·.1)).reverse y)):=by
 show (if y∈seen then _ else _)=_;(refine (if_pos h).trans ?_;exact (if_pos h'))
theorem QD{st:PS}:y7 g n ((y,[])::st) seen=y7 g n st seen:=rfl
theorem Bs{u:Str}{us:List Str}{st:PS}:y7 g n ((y,u::us)::st) seen=wX g n u ((y,us)::st) seen:=rfl
theorem ND(nd:na.Nodup)(hy:y∈na)(hs:y∉seen):(g y).length+wt g na (seen++ [y])=wt g na seen:=by
 unfold wt;induction na with
 |nil=>exact absurd hy aV
 |cons a r ih=>
  have Ip:=bu.mp nd;by_cases e:y=a
  ·subst e;have hr:r.filter (λx=>decide (x∉seen++ [y]))=r.filter λx=>decide (x∉seen):=by
    apply jT;intro x hx;have:x≠y:=λq=>Ip.1 (q▸hx);simp [this]
   rw [b7 (by simp),cu (by simpa using hs),hr];rfl
  ·have hy':y∈r:=(jJ hy).resolve_left e;have h:=ih Ip.2 hy';by_cases ha:a∈seen
   ·rw [b7 (by simp [ha]),b7 (by simp [ha])];exact h
   ·rw [cu (by simp [ha];exact λq=>e q.symm),cu (by simpa using ha)];simp only [bx,jF];exact (Nat.add_left_comm _ _ _).trans (congrArg _ h)
def NF(g:Str->List Str)(na L:List Str)(rk:Str->Nat):Prop:=∀x∈na,x∉L->∀u∈g x,u∈na/\u∉L/\rk u<rk x
theorem explore(nd:na.Nodup)(dead:NF g na L rk):∀(r:Nat) (y:Str) (st:PS) (seen:List Str),rk y<r->y∈na->y∉L->(∀x∈st.map (·.1),x∈L∨rk y<rk x)->
  ∃k seen',(∀n,wX g (n+k) y st seen=y7 g n st seen')/\k+wt g na seen'<=1+wt g na seen/\(∀x∈seen,x∈seen')/\(∀x∈seen',x∈seen∨x∉L)/\y∈seen':=by
 intro r;induction r with
 |zero=>exact λy st seen h=>absurd h (gI _)
 |succ r ih=>
  intro y st seen hr hy hL hst;have Z0:y∉st.map (·.1):=λq=>(hst y q).elim hL (aX _);by_cases hs:y∈seen
  ·exact ⟨1,seen,λn=>NB hs Z0,ax _,λ_ h=>h,λ_ h=>.inl h,hs⟩
  ·have Ex:=dead y hy hL;have key:∀(us:List Str) (zP:List Str),(∀u∈us,u∈g y)->∃k seen',(∀n,y7 g (n+k) ((y,us)::st) zP=y7 g n st seen')/\k+wt g na seen'<=us.length+wt g na zP/\(∀x∈zP,x∈seen')/\(∀x∈seen',x∈zP∨x∉L):=by
    intro us;induction us with
    |nil=>exact λzP _=>⟨0,zP,λn=>QD,by exact ax _,λ_ h=>h,λ_ h=>.inl h⟩
    |cons u us ihu=>
     intro zP hu;refine cW (Ex u (hu u (fm ..))) λh1 h2 h3=>?_;refine dD (ih u ((y,us)::st) zP (ag h3 (dF hr)) h1 h2 (by
      intro x hx;rcases jJ hx with rfl|hx
      ·exact .inr h3
      ·exact (hst x hx).imp_right (aD h3))) λk1 s1 e1 c1 m1 n1 _=>?_
     refine ey (ihu s1 λv hv=>hu v (i8 _ hv)) λk2 s2 e2 c2 m2 n2=>?_;refine ⟨k2+k1,s2,λn=>?_,by simp only [aU];exact w1q c2 c1,λx hx=>m2 x (m1 x hx),λx hx=>(n2 x hx).elim (n1 x) .inr⟩;rw [←dC,Bs,e1,e2]
   refine ey (key (g y) (seen++ [y]) λ_ h=>h) λk s' e c m n'=>?_;have w:=ND (g:=g) nd hy hs;refine ⟨k+1,s',λn=>?_,ai (ar (aN _ _ _)) (ai (iZ (ai c (ar w))) (ar (cF _ 1))),λx hx=>m x (cf _ hx),λx hx=>?_,m y (cI _ (aL.mpr rfl))⟩
   ·rw [←dC,Jt hs,e]
   ·rcases n' x hx with h|h
    ·rcases aG.mp h with h|h
     ·exact .inl h
     ·rw [aL] at h;subst h;exact .inr hL
    ·exact .inr h
theorem NG(nd:na.Nodup)(dead:NF g na L rk){st:PS}(hy:y∈L)(hst:∀x∈st.map (·.1),x∈L):∀(us rest:List Str) (seen:List Str),(∀u∈us,u∈na/\u∉L)->
  ∃k seen',(∀n,y7 g (n+k) ((y,us++rest)::st) seen=y7 g n ((y,rest)::st) seen')/\k+wt g na seen'<=us.length+wt g na seen/\(∀x∈seen,x∈seen')/\(∀x∈seen',x∈seen∨x∉L):=by
 intro us;induction us with
 |nil=>exact λrest seen _=>⟨0,seen,λn=>rfl,by exact ax _,λ_ h=>h,λ_ h=>.inl h⟩
 |cons u us ih=>
  intro rest seen hu;obtain ⟨h1,h2⟩:=hu u (fm ..);refine dD (explore nd dead (rk u+1) u ((y,us++rest)::st) seen (bU _) h1 h2 (by
   intro x hx;rcases jJ hx with rfl|hx
   ·exact .inl hy
   ·exact .inl (hst x hx))) λk1 s1 e1 c1 m1 n1 _=>?_
  refine ey (ih rest s1 λv hv=>hu v (i8 _ hv)) λk2 s2 e2 c2 m2 n2=>?_;refine ⟨k2+k1,s2,λn=>?_,by simp only [aU];exact w1q c2 c1,λx hx=>m2 x (m1 x hx),λx hx=>(n2 x hx).elim (n1 x) .inr⟩;show y7 g (n+(k2+k1)) ((y,u::(us++rest))::st) seen=_;rw [←dC,Bs,e1,e2]
def qE(nx:Str->Str):Nat->List Str->Str->List Str
 |0,_,_=>[]
 |n+1,p,y=>if y∈p then pJ p y else qE nx n (p++ [y]) (nx y)
theorem walk(nd:na.Nodup)(sub:∀x∈L,x∈na)(cl:∀x∈na,∀u∈g x,u∈na)(dead:NF g na L rk){nx:Str->Str}(XZ:∀y∈L,∃us rest,g y=us++nx y::rest/\(∀u∈us,u∉L)/\nx y∈L):
  ∀(m:Nat) (y:Str) (st:PS) (seen:List Str) (n:Nat),y∈L->(st.map (·.1)).Nodup->(∀x∈st.map (·.1),x∈L)->(∀x∈L,x∈seen↔x∈st.map (·.1))->L.length<st.length+m->1+m+wt g na seen<=n->
  wX g n y st seen=af (.inl (qE nx m (st.map (·.1)).reverse y)):=by
 intro m;induction m with
 |zero=>
  intro y st seen n hy hnd hst _ hl _;have:=jt hnd hst;rw [aH] at this;exact absurd hl (cD.mpr this)
 |succ m ih=>
  intro y st seen n hy hnd hst JP hl hn;obtain ⟨n,rfl⟩:∃n',n=n'+1:=⟨n-1,(gh (ai (ai (aF _ _) (aF _ _)) hn)).symm⟩;by_cases h:y∈st.map (·.1)
  ·refine (NC ((JP y hy).mpr h) h).trans ?_;show _=af (Sum.inl (if y∈_ then _ else _));rw [if_pos (zt.mpr h)]
  ·have hs:y∉seen:=λq=>h ((JP y hy).mp q);refine ck (XZ y hy) λus rest e Ex hx=>?_;rw [Jt hs,e];have w:=ND (g:=g) nd (sub y hy) hs;refine ey (NG nd dead hy hst us (nx y::rest) (seen++ [y]) λu hu=>⟨cl y (sub y hy) u (by rw [e];exact cf _ hu),Ex u hu⟩) λk s1 e1 c1 m1 n1=>?_;have hul:us.length+1<=(g y).length:=by rw [e,aq,aU];exact bE (lR _) _
   obtain ⟨n',rfl⟩:∃n',n=n'+k:=⟨n-k,(gh (ai (ai (aF _ _) (ai c1 (ai (cg (eN hul) _) (ar w)))) (fc (ai (ai (ar (cF _ 1)) (cg (aF _ _) _)) hn)))).symm⟩;rw [e1,Bs,ih (nx y) ((y,rest)::st) s1 n' hx (bu.mpr ⟨h,hnd⟩) (by
    intro x hx';rcases jJ hx' with rfl|hx'
    ·exact hy
    ·exact hst x hx') (λx Z1=>⟨λq=>by
     rcases n1 x q with q|q
     ·rcases aG.mp q with q|q
      ·exact i8 _ ((JP x Z1).mp q)
      ·rw [aL] at q;subst q;exact fm ..
     ·exact absurd Z1 q,λq=>m1 x (by
     rcases jJ q with rfl|q
     ·exact cI _ (aL.mpr rfl)
     ·exact cf _ ((JP x Z1).mpr q))⟩) (ag hl (ar (aN _ _ 1))) (j8 (ai (ar ((dC _ _ _).trans (congrArg _ (cF _ _)))) (ai (bE (eN (ai (iZ c1) (ai (ar (aN _ _ 1)) (ai (cg hul _) (ar w))))) _) (fc (ai (ar (aN _ _ 1)) hn)))))]
   show _=af (Sum.inl (if y∈_ then _ else _));rw [if_neg (λq=>h (zt.mp q)),bx,qL]
theorem QE(nd:na.Nodup)(sub:∀x∈L,x∈na)(cl:∀x∈na,∀u∈g x,u∈na)(dead:NF g na L rk){nx:Str->Str}(XZ:∀y∈L,∃us rest,g y=us++nx y::rest/\(∀u∈us,u∉L)/\nx y∈L)(hn:2+L.length+wt g na []<=n):
  ∀(ys seen:List Str),(∀y∈ys,y∈na)->(∀x∈seen,x∉L)->wt g na seen<=wt g na []->findP g n ys seen=af ((ys.find? λy=>decide (y∈L)).map (qE nx (L.length+1) [])):=by
 intro ys;induction ys with
 |nil=>exact λ_ _ _ _=>rfl
 |cons y ys ih=>
  intro seen hys hs hw;have hy:=hys y (fm ..);by_cases hL:y∈L
  ·rw [mi (by simpa using hL)];have h:=walk nd sub cl dead XZ (L.length+1) y [] seen n hL dz (λ_ h=>absurd h aV) (λx hx=>⟨λq=>absurd hx (hs x q),λq=>absurd q aV⟩) (by simp) (ai (dW (ar (Nat.succ_add 1 _).symm) hw) hn);show (if y∈seen then _ else match wX g n y [] seen with|none=>ae|some (.inl ring)=>af (af ring)|some (.inr seen')=>findP g n ys seen')=_;rw [if_neg (λq=>hs y q hL),h];rfl
  ·rw [jm (by simpa using hL)];show (if y∈seen then findP g n ys seen else match wX g n y [] seen with|none=>ae|some (.inl ring)=>af (af ring)|some (.inr seen')=>findP g n ys seen')=_;by_cases X0:y∈seen
   ·refine (if_pos X0).trans ?_;exact ih seen (λx hx=>hys x (i8 _ hx)) hs hw
   ·refine (if_neg X0).trans ?_;refine dD (explore nd dead (rk y+1) y [] seen (bU _) hy hL (λ_ h=>absurd h aV)) λk s1 e1 c1 m1 n1 _=>?_;obtain ⟨n',hn'⟩:∃n',n=n'+k:=⟨n-k,(gh (ai (aF _ _) (ai c1 (ai (dW (ai (ak rfl:1<=2) (aF _ _)) hw) hn)))).symm⟩;rw [hn',e1,←hn'];show findP g n ys s1=_;have hw1:wt g na s1<=wt g na seen:=by
     unfold wt;have hsub:∀(l:List Str),((l.filter λx=>decide (x∉s1)).map λx=>(g x).length).sum<=((l.filter λx=>decide (x∉seen)).map λx=>(g x).length).sum:=by
      intro l;induction l with
      |nil=>exact ax _
      |cons a l ihl=>
       by_cases h1:a∈seen
       ·rw [b7 (by simp [m1 a h1]),b7 (by simp [h1])];exact ihl
       ·refine (cu (a:=a) (p:=λx=>decide (x∉seen)) (by simpa using h1))▸ ?_;by_cases h2:a∈s1
        ·rw [b7 (by simp [h2]),bx,jF];exact ai ihl (dH _ _)
        ·rw [cu (by simpa using h2),bx,bx,jF,jF];exact bE ihl _
     exact hsub na
    exact ih s1 (λx hx=>hys x (i8 _ hx)) (λx hx=>(n1 x hx).elim (hs x) id) (ai hw1 hw)
end
noncomputable def xq(na:List Str)(t:Str->List Str)(c:Str):List Str:=na.filter λi=>decide (c∈t i)
noncomputable def gT(t:Str->List Str)(c i:Str):List Str:=((t i).filter λs=>decide (s=c)).map λ_=>i
noncomputable def gL(na:List Str)(t:Str->List Str)(c:Str):List Str:=na.flatMap (gT t c)
noncomputable def cH(na:List Str)(t:Str->List Str):Nat->List Str
 |0=>na
 |k+1=>(cH na t k).filter λn=>(xq na t n).any λu=>decide (u∈cH na t k)
noncomputable def R7(na:List Str)(t:Str->List Str)(x:Str):Nat->Nat
 |0=>0
 |k+1=>if x∈cH na t k then k+1 else R7 na t x k
noncomputable def O3(na:List Str)(t:Str->List Str)(n:Nat)(y:Str):Str:=((xq na t y).filter λu=>decide (u∈cH na t n)).headD y
section
variable{na:List Str}
theorem u5{c i u:Str}:u∈gT t c i↔c∈t i/\u=i:=by
 unfold gT;rw [aT];constructor
 ·rintro ⟨s,hs,rfl⟩;have:=bL.mp hs;have e:=iK this.2;exact ⟨e▸this.1,rfl⟩
 ·rintro ⟨h,rfl⟩;exact ⟨c,bL.mpr ⟨h,decide_eq_true rfl⟩,rfl⟩
theorem Ec{c u:Str}:u∈gL na t c↔u∈xq na t c:=by
 unfold gL xq;rw [cJ,bL];constructor
 ·rintro ⟨i,hi,h⟩;obtain ⟨h,rfl⟩:=u5.mp h;exact ⟨hi,decide_eq_true h⟩
 ·rintro ⟨h1,h2⟩;exact ⟨u,h1,u5.mpr ⟨iK h2,rfl⟩⟩
theorem x9:x∈cH na t (k+1)↔x∈cH na t k/\∃u∈xq na t x,u∈cH na t k:=by
 show x∈qO _ _↔_;rw [bL,iX];simp only [decide_eq_true_eq]
theorem vJ(h:k<=j):x∈cH na t j->x∈cH na t k:=by
 induction h with
 |refl=>exact id
 |step _ ih=>exact λq=>ih (x9.mp q).1
theorem CZ(h:cH na t (k+1)=cH na t k):cH na t (k+2)=cH na t (k+1):=by
 show qO (λn=>(xq na t n).any λu=>decide (u∈cH na t (k+1))) (cH na t (k+1))=_;rw [h];exact h
theorem HV(k:Nat):cH na t (k+1)=cH na t k∨(cH na t k).length+k<=na.length:=by
 induction k with
 |zero=>exact .inr (ax _)
 |succ k ih=>
  rcases ih with h|h
  ·exact .inl (CZ h)
  ·by_cases q:(cH na t (k+1)).length=(cH na t k).length
   ·exact .inl (CZ (iP.eq_of_length q))
   ·have:(cH na t (k+1)).length<=(cH na t k).length:=iP.length_le;exact .inr (ai (ar (aN _ _ 1)) (ai (cg (qc this q) _) h))
theorem C0(hn:na.length<=n):cH na t (n+1)=cH na t n:=by
 rcases HV (na:=na) (t:=t) n with h|h
 ·exact h
 ·have:cH na t n= []:=gC.mp (Nat.le_zero.mp (j8 (ai h (ai hn (ar (fH _).symm)))));show qO _ (cH na t n)=_;rw [this];rfl
theorem WA{u:Str}:∀{n:Nat},(∀j,k<=j->u∉cH na t j)->R7 na t u n<=k/\R7 na t u n<=n:=by
 intro n h;induction n with
 |zero=>exact ⟨eS _,eS _⟩
 |succ n ih=>
  show (if u∈cH na t n then n+1 else R7 na t u n)<=k/\(if u∈cH na t n then n+1 else R7 na t u n)<=n+1;by_cases q:u∈cH na t n
  ·rw [if_pos q];refine ⟨?_,ax _⟩;rcases ew n k with hk|hk
   ·exact hk
   ·exact absurd q (h n hk)
  ·rw [if_neg q];exact ⟨ih.1,ix ih.2⟩
theorem WB(hx:x∈cH na t k):∀{n:Nat},k<n->k+1<=R7 na t x n:=by
 intro n h;induction n with
 |zero=>exact absurd h (gI _)
 |succ n ih=>
  show k+1<=(if x∈cH na t n then n+1 else R7 na t x n);by_cases q:x∈cH na t n
  ·rw [if_pos q];exact h
  ·rw [if_neg q];have:k≠n:=λe=>q (e▸hx);exact ih (qc (dF h) this)
theorem NH(h0:x∈na):∀{n:Nat},x∉cH na t n->∃k,k<n/\x∈cH na t k/\x∉cH na t (k+1):=by
 intro n h;induction n with
 |zero=>exact absurd h0 h
 |succ n ih=>
  by_cases q:x∈cH na t n
  ·exact ⟨n,bU _,q,h⟩
  ·refine aR (ih q) λk h1 h2=>?_;exact ⟨k,gA h1,h2⟩
theorem QF:NF (gL na t) na (cH na t n) λx=>R7 na t x n:=λx hx hL u hu=>by
 refine cO (NH hx hL) λk hk h1 h2=>?_;have hu':=Ec.mp hu;have hn:u∉cH na t k:=λq=>h2 (x9.mpr ⟨h1,u,hu',q⟩);refine ⟨(bL.mp hu').1,λq=>hn (vJ (bS hk) q),aW (WA (k:=k) λj hj q=>hn (vJ hj q)).1 (WB h1 hk)⟩
theorem NI:∀{m:List Str},(∃u∈m.filter (λi=>decide (y∈t i)),u∈L)->∃us rest,m.flatMap (gT t y)=us++((m.filter λi=>decide (y∈t i)).filter λu=>decide (u∈L)).headD y::rest/\(∀u∈us,u∉L)/\
  ((m.filter λi=>decide (y∈t i)).filter λu=>decide (u∈L)).headD y∈L:=by
 intro m;induction m with
 |nil=>rintro ⟨u,hu,_⟩;exact absurd hu aV
 |cons a m ih=>
  intro h;by_cases q:y∈t a
  ·rw [cu (by simpa using q)] at h ⊢;by_cases qa:a∈L
   ·rw [cu (by simpa using qa)];have:∃r,gT t y a=a::r:=by
     have hm:a∈gT t y a:=u5.mpr ⟨q,rfl⟩;cases e:gT t y a with
     |nil=>rw [e] at hm;exact absurd hm aV
     |cons b r=>
      have:=u5.mp (e▸fm .. :b∈gT t y a);exact ⟨r,by rw [this.2]⟩
    obtain ⟨r,e⟩:=this;exact ⟨[],r++m.flatMap (gT t y),by rw [bz,e];rfl,λ_ h=>absurd h aV,qa⟩
   ·rw [b7 (by simpa using qa)];obtain ⟨us,rest,e,h1,h2⟩:=ih (by
     obtain ⟨u,hu,hL⟩:=h;rcases jJ hu with rfl|hu
     ·exact absurd hL qa
     ·exact ⟨u,hu,hL⟩)
    refine ⟨gT t y a++us,rest,by rw [bz,e,aQ],λu hu=>?_,h2⟩;rcases aG.mp hu with hu|hu
    ·rw [(u5.mp hu).2];exact qa
    ·exact h1 u hu
  ·rw [b7 (by simpa using q)] at h ⊢;refine ck (ih h) λus rest e h1 h2=>?_;have e0:gT t y a= []:=by
    cases e:gT t y a with
    |nil=>rfl
    |cons b r=>exact absurd (u5.mp (e▸fm .. :b∈gT t y a)).1 q
   exact ⟨us,rest,by rw [bz,e0];exact e,h1,h2⟩
theorem Ju(hn:na.length<=n):∀y∈cH na t n,∃us rest,gL na t y=us++O3 na t n y::rest/\(∀u∈us,u∉cH na t n)/\O3 na t n y∈cH na t n:=λy hy=>by
 have h:=(x9.mp (C0 hn▸hy:y∈cH na t (n+1))).2;exact NI h
theorem K4(nd:na.Nodup)(hn:na.length<=n){N:Nat}(hN:2+(cH na t n).length+wt (gL na t) na []<=N){ys:List Str}(hys:∀y∈ys,y∈na):
  findP (gL na t) N ys []=af ((ys.find? λy=>decide (y∈cH na t n)).map (qE (O3 na t n) ((cH na t n).length+1) [])):=
 QE nd (λx hx=>vJ (eS _) hx) (λx _ u hu=>(bL.mp (Ec.mp hu)).1) QF (Ju hn) hN ys [] hys (λ_ h=>absurd h aV) (ax _)
end
theorem NJ(l r:List NV)(x:Str):(l++r).find? (λe=>e.1=x)=(l.find? λe=>e.1=x).or (r.find? λe=>e.1=x):=fM
theorem mL(nm:Str)(g:NV->NV)(hg:∀e,(g e).1=e.1)(l:List NV):(rt nm g l).map (·.1)=l.map (·.1):=by
 dsimp only [rt];refine (dw).trans ?_;refine d9 λe _=>?_;show (if e.1=nm then g e else e).1=e.1;split
 ·exact hg e
 ·rfl
theorem rT(nm:Str)(g:NV->NV)(hg:∀e,(g e).1=e.1)(x:Str):∀l:List NV,(rt nm g l).find? (λe=>e.1=x)=(l.find? λe=>e.1=x).map λe=>if x=nm then g e else e
 | []=>rfl
 |e::l=>by
  show ((if e.1=nm then g e else e)::rt nm g l).find? _=_;rw [jx,jx];have h1:(if e.1=nm then g e else e).1=e.1:=by
   split
   ·exact hg e
   ·rfl
  rw [h1];by_cases q:e.1=x
  ·refine (decide_eq_true q)▸ ?_;subst q;rfl
  ·refine (decide_eq_false q)▸ ?_;exact rT nm g hg x l
theorem C1(l:List NV)(nm x:Str):x7 (pH l nm) x=x7 l x/\kM (pH l nm) x=kM l x:=by
 dsimp only [pH];split
 ·exact ⟨rfl,rfl⟩
 ·dsimp only [x7,kM];rw [NJ];induction h:l.find? (λe=>e.1=x) using aw with
  |some e=>exact ⟨rfl,rfl⟩
  |none=>
   rw [Option.none_or,jx];by_cases q:nm=x
   ·simp [q]
   ·simp [q]
theorem FV(l:List NV)(nm:Str):nm∈(pH l nm).map (·.1):=by
 dsimp only [pH];split
 ·assumption
 ·simp
theorem Bt{l:List NV}(h:x∈l.map (·.1)):∃e,l.find? (λe=>e.1=x)=af e:=by
 refine aR (aT.mp h) λe he q=>?_;have:(l.find? λe=>e.1=x).isSome=ao:=List.find?_isSome.mpr ⟨e,he,decide_eq_true q⟩;exact iE.mp this
theorem QG(l:List NV)(p nm x:Str)(hp:p∈l.map (·.1)):x7 (rt p (tX nm) l) x=x7 l x++(if p=x then [nm] else [])/\kM (rt p (tX nm) l) x=kM l x:=by
 dsimp only [x7,kM];rw [rT p (tX nm) (λ_=>rfl)];by_cases q:p=x
 ·subst q;obtain ⟨e,he⟩:=Bt hp;refine he▸ ?_;simp [tX]
 ·have q':¬x=p:=λe=>q e.symm;cases l.find? (λe=>e.1=x) with
  |none=>simp [q]
  |some e=>simp [q,q']
theorem WC(l:List NV)(nm:Str)(k:Int)(x:Str)(hp:nm∈l.map (·.1)):x7 (rt nm (O2 k) l) x=x7 l x/\kM (rt nm (O2 k) l) x=kM l x+(if nm=x then k else 0):=by
 dsimp only [x7,kM];rw [rT nm (O2 k) (λ_=>rfl)];by_cases q:nm=x
 ·subst q;obtain ⟨e,he⟩:=Bt hp;refine he▸ ?_;simp [O2]
 ·have q':¬x=nm:=λe=>q e.symm;cases l.find? (λe=>e.1=x) with
  |none=>simp [q]
  |some e=>simp [q,q']
theorem FW{g:NV->NV}(hg:∀e,(g e).1=e.1){l:List NV}:x∈(rt nm g l).map (·.1)↔x∈l.map (·.1):=by rw [mL nm g hg]
theorem FX{l:List NV}:x∈(pH l nm).map (·.1)↔x∈l.map (·.1)∨x=nm:=by
 dsimp only [pH];split
 ·rename_i h
  exact ⟨.inl,λq=>q.elim id λq=>q▸h⟩
 ·simp
section
def FY(nm:Str)(l:List NV)(ps:List Str):List NV:=ps.foldl (λl p=>rt p (tX nm) (pH l p)) l
theorem NK(nm x:Str):∀(ps:List Str) (l:List NV),x7 (FY nm l ps) x=x7 l x++(ps.filter λs=>decide (s=x)).map (λ_=>nm)/\kM (FY nm l ps) x=kM l x:=by
 intro ps;induction ps with
 |nil=>exact λl=>⟨(bB _).symm,rfl⟩
 |cons p ps ih=>
  intro l;obtain ⟨a,b⟩:=ih (rt p (tX nm) (pH l p));obtain ⟨c,d⟩:=QG (pH l p) p nm x (FV l p);obtain ⟨e,f⟩:=C1 l p x;refine ⟨a.trans ?_,b.trans (d.trans f)⟩;rw [c,e];by_cases q:p=x
  ·rw [if_pos q,cu (by simpa using q),aQ];rfl
  ·rw [if_neg q,b7 (by simpa using q),bB]
theorem QH(nm x:Str)(ps:List Str)(l:List NV):x7 (Cm l nm ps) x=x7 l x++(ps.filter λs=>decide (s=x)).map (λ_=>nm)/\kM (Cm l nm ps) x=kM l x+(if nm=x then (ps.length:Int) else 0):=by
 obtain ⟨a,b⟩:=NK nm x ps (rt nm (O2 ps.length) (pH l nm));obtain ⟨c,d⟩:=WC (pH l nm) nm (ps.length:Nat) x (FV l nm);obtain ⟨e,f⟩:=C1 l nm x;exact ⟨a.trans (by rw [c,e]),b.trans (by rw [d,f])⟩
theorem FZ{p:Str->Bool}(l:List NV)(nm:Str):((pH l nm).map (·.1)).find? p=(l.map (·.1)++ [nm]).find? p:=by
 unfold pH;by_cases q:nm∈l.map (·.1)
 ·rw [if_pos q,fM];cases h:(l.map (·.1)).find? p with
  |some a=>rfl
  |none=>
   have:=xj.mp h nm q;rw [jm this];rfl
 ·rw [if_neg q,cw];rfl
theorem HW{p:Str->Bool}(nm:Str):∀(ps:List Str) (l:List NV),((FY nm l ps).map (·.1)).find? p=(l.map (·.1)++ps).find? p:=by
 intro ps;induction ps with
 |nil=>exact λl=>by rw [bB];rfl
 |cons a ps ih=>
  intro l;refine (ih _).trans ?_;rw [fM,mL a (tX nm) (λ_=>rfl),FZ,←fM,aQ];rfl
theorem K5{p:Str->Bool}(nm:Str)(ps:List Str)(l:List NV):((Cm l nm ps).map (·.1)).find? p=(l.map (·.1)++nm::ps).find? p:=by
 refine (HW nm ps _).trans ?_;rw [fM,mL nm (O2 _) (λ_=>rfl),FZ,←fM,aQ];rfl
theorem K6(nm x:Str):∀(ps:List Str) (l:List NV),x∈(FY nm l ps).map (·.1)↔x∈l.map (·.1)∨x∈ps:=by
 intro ps;induction ps with
 |nil=>exact λl=>⟨.inl,λh=>h.resolve_right aV⟩
 |cons a ps ih=>
  intro l;refine (ih _).trans ?_;rw [FW (g:=tX nm) (λ_=>rfl),FX,aZ];exact or_assoc
theorem NL(nm x:Str)(ps:List Str)(l:List NV):x∈(Cm l nm ps).map (·.1)↔x∈l.map (·.1)∨x∈nm::ps:=by
 refine (K6 nm x ps _).trans ?_;rw [FW (g:=O2 _) (λ_=>rfl),FX,aZ];exact or_assoc
noncomputable def rU(na:List Str)(t:Str->List Str)(i:Str):List Str:=(t i).filter λs=>decide (s∈na)
def gn(na:List Str)(t:Str->List Str)(is:List Str)(l:List NV):List NV:=is.foldl (λl i=>Cm l i (rU na t i)) l
variable{na:List Str}
theorem Bu(hx:x∈na):∀(is:List Str) (l:List NV),is.Nodup->x7 (gn na t is l) x=x7 l x++is.flatMap (gT t x)/\kM (gn na t is l) x=kM l x+(if x∈is then ((rU na t x).length:Int) else 0):=by
 intro is;induction is with
 |nil=>exact λl _=>⟨(bB _).symm,(kB _).symm⟩
 |cons i is ih=>
  intro l nd;have Ip:=bu.mp nd;obtain ⟨a,b⟩:=ih (Cm l i (rU na t i)) Ip.2;obtain ⟨c,d⟩:=QH i x (rU na t i) l;have e:((rU na t i).filter λs=>decide (s=x)).map (λ_=>i)=gT t x i:=by
   unfold rU gT;rw [qd];congr 1;refine jT λs _=>?_;by_cases q:s=x
   ·subst q;simp [hx]
   ·simp [q]
  refine ⟨a.trans ?_,b.trans ?_⟩
  ·rw [c,e,aQ];rfl
  ·rw [d];by_cases q:i=x
   ·subst q;rw [if_pos rfl,if_neg Ip.1,if_pos (fm ..)];exact kB _
   ·have q':¬x=i:=λh=>q h.symm;simp only [if_neg q,aZ,q',false_or];exact congrArg (· +_) (kB _)
theorem HX{p:Str->Bool}:∀(is:List Str) (l:List NV),((gn na t is l).map (·.1)).find? p=(l.map (·.1)++is.flatMap λi=>i::rU na t i).find? p:=by
 intro is;induction is with
 |nil=>exact λl=>by rw [kz,bB];rfl
 |cons i is ih=>
  intro l;refine (ih _).trans ?_;rw [fM,K5,←fM,bz,aQ]
theorem K7:∀(is:List Str) (l:List NV),x∈(gn na t is l).map (·.1)↔x∈l.map (·.1)∨x∈is.flatMap λi=>i::rU na t i:=by
 intro is;induction is with
 |nil=>exact λl=>⟨.inl,λh=>h.resolve_right aV⟩
 |cons i is ih=>
  intro l;refine (ih _).trans ?_;rw [NL,bz,aG (s:=i::rU na t i),or_assoc]
theorem lE:x∈(gn na t na []).map (·.1)↔x∈na:=by
 refine (K7 na []).trans ?_;rw [cJ];constructor
 ·rintro (h|⟨i,hi,h⟩)
  ·exact absurd h aV
  ·rcases jJ h with rfl|h
   ·exact hi
   ·exact iK (bL.mp h).2
 ·exact λh=>.inr ⟨x,h,fm ..⟩
end
section
theorem vK{l:List NV}(hy:y∈l.map (·.1))(v:Int)(x:Str):kM (kI y v l) x=if x=y then v else kM l x:=by
 unfold kI kM;rw [rT y (λe=>(e.1,v,e.2.2)) (λ_=>rfl)];by_cases q:x=y
 ·subst q;obtain ⟨e,he⟩:=Bt hy;refine he▸ ?_;simp
 ·refine (if_neg q)▸ ?_;cases l.find? (λe=>e.1=x) with
  |none=>rfl
  |some e=>simp [q]
theorem QI(l:List NV)(y:Str)(v:Int)(x:Str):x7 (kI y v l) x=x7 l x:=by
 unfold kI x7;rw [rT y (λe=>(e.1,v,e.2.2)) (λ_=>rfl)];by_cases q:x=y
 ·subst q;cases l.find? (λe=>e.1=x) with
  |none=>rfl
  |some e=>simp
 ·cases l.find? (λe=>e.1=x) with
  |none=>rfl
  |some e=>simp [q]
theorem lA(l:List NV)(y:Str)(v:Int):(kI y v l).map (·.1)=l.map (·.1):=mL y (λe=>(e.1,v,e.2.2)) (λ_=>rfl) l
structure Sm(l l':List NV):Prop where
 nm:l'.map (·.1)=l.map (·.1)
 ss:∀x,x7 l' x=x7 l x
theorem Sm.refl{l:List NV}:Sm l l:=⟨rfl,λ_=>rfl⟩
theorem Sm.trans{l l' ZV:List NV}(a:Sm l l')(b:Sm l' ZV):Sm l ZV:=⟨b.nm.trans a.nm,λx=>(b.ss x).trans (a.ss x)⟩
theorem Sm.kI{v:Int}{l:List NV}:Sm l (kI y v l):=⟨lA l y v,λ_=>QI l y v _⟩
theorem NM:∀(us:List Str) (G:List NV) (l:List Str),(∀x∈us,x∈G.map (·.1)/\(us.count x:Int)<=kM G x)->
  ∃ext G',us.foldl y6 (G,l)=(G',l++ext)/\Sm G G'/\(∀x,kM G' x=kM G x-(us.count x:Int))/\ext.Nodup/\(∀x,x∈ext↔x∈us/\kM G x=(us.count x:Int)):=by
 intro us;induction us with
 |nil=>exact λG l _=>⟨[],G,by simp,.refl,λx=>by simp,dz,λx=>by simp⟩
 |cons u us ih=>
  intro G l h;obtain ⟨hu,hc⟩:=h u (fm ..);rw [vt] at hc;have Vv:∀x,kM (kI u (kM G u-1) G) x=if x=u then kM G u-1 else kM G x:=λx=>vK hu _ x
  refine dD (ih (kI u (kM G u-1) G) (if kM G u-1=0 then l++ [u] else l) (λx hx=>by
   obtain ⟨h1,h2⟩:=h x (i8 _ hx);refine ⟨by rw [lA];exact h1,?_⟩;rw [Vv];by_cases q:x=u
   ·subst q;rw [if_pos rfl];exact Int.le_sub_one_of_lt hc
   ·rw [if_neg q];rw [uj (λe=>q e.symm)] at h2;exact h2)) λext G' e s n nd m=>?_
  have cnt:∀x,(((u::us).count x:Nat):Int)=(us.count x:Int)+if x=u then 1 else 0:=λx=>by
   by_cases q:x=u
   ·subst q;rw [vt,if_pos rfl];exact rfl
   ·rw [uj (λe=>q e.symm),if_neg q];exact (kB _).symm
  have hn:∀x,kM G' x=kM G x-((u::us).count x:Int):=λx=>by
   rw [n,Vv,cnt];by_cases q:x=u
   ·subst q;rw [if_pos rfl,if_pos rfl];exact (Int.sub_sub _ _ _).trans (congrArg _ (yh _ _))
   ·rw [if_neg q,if_neg q];exact congrArg _ (kB _).symm
  have key:∀x,x∈ext↔(x∈us/\kM G x=((u::us).count x:Int)):=λx=>by
   rw [m,Vv,cnt];by_cases q:x=u
   ·subst q;rw [if_pos rfl,if_pos rfl];exact ⟨λh=>⟨h.1,jI.mp h.2⟩,λh=>⟨h.1,jI.mpr h.2⟩⟩
   ·rw [if_neg q,if_neg q];exact ⟨λh=>⟨h.1,h.2.trans (kB _).symm⟩,λh=>⟨h.1,h.2.trans (kB _)⟩⟩
  show∃ext G',us.foldl y6 (kI u (kM G u-1) G,if kM G u-1=0 then l++ [u] else l)=_/\_;by_cases q:kM G u-1=0
  ·rw [if_pos q] at e ⊢;have Ex:u∉us:=λhm=>by exact absurd (jd.mp (je hc (oC (gJ.mp q))):_<=1) (tu.mpr (zq (qe.mpr hm)))
   refine ⟨u::ext,G',by rw [e,aQ];rfl,Sm.kI.trans s,hn,bu.mpr ⟨λhm=>Ex ((key u).mp hm).1,nd⟩,λx=>?_⟩;rw [aZ,key,aZ];constructor
   ·rintro (rfl|⟨a,b⟩)
    ·exact ⟨.inl rfl,by rw [cnt,if_pos rfl,gx Ex];exact jI.mp q⟩
    ·exact ⟨.inr a,b⟩
   ·rintro ⟨a|a,b⟩
    ·exact .inl a
    ·exact .inr ⟨a,b⟩
  ·rw [if_neg q] at e ⊢;refine ⟨ext,G',e,Sm.kI.trans s,hn,nd,λx=>?_⟩;rw [key,aZ];constructor
   ·exact λ⟨a,b⟩=>⟨.inr a,b⟩
   ·rintro ⟨rfl|a,b⟩
    ·rw [cnt,if_pos rfl] at b;have:us.count x≠0:=λz=>q (jI.mpr (b.trans (by rw [z];rfl)));exact ⟨qe.mp (xm this),by rw [cnt,if_pos rfl];exact b⟩
    ·exact ⟨a,b⟩
variable{na:List Str}
def O4(na:List Str)(t:Str->List Str)(x:Str)(D:List Str):Nat:=(rU na t x).countP λp=>decide (p∈D)
theorem R8{D:List Str}:O4 na t x D<=(rU na t x).length:=List.countP_le_length
theorem QJ{D:List Str}(hy:y∉D):O4 na t x (D++ [y])=O4 na t x D+(rU na t x).count y:=by
 unfold O4;generalize rU na t x=l;induction l with
 |nil=>rfl
 |cons a l ih=>
  simp only [sr,List.count_cons,ih];by_cases q:a=y
  ·subst q;simp [hy];exact rfl
  ·simp [q];exact aN _ _ _
theorem HY{D:List Str}:O4 na t x D=(rU na t x).length↔∀p∈rU na t x,p∈D:=by
 unfold O4;rw [List.countP_eq_length];simp only [decide_eq_true_eq]
theorem NN(nd:na.Nodup)(hx:x∈na)(hy:y∈na):(gL na t y).count x=(rU na t x).count y:=by
 have h1:(rU na t x).count y=(t x).count y:=by
  unfold rU;rw [List.count_filter (by simpa using hy)]
 rw [h1];unfold gL;have h2:∀i,(gT t y i).count x=if i=x then (t x).count y else 0:=λi=>by
  by_cases q:i=x
  ·subst q;rw [if_pos rfl];unfold gT;rw [vu,List.countP_map,vu];rw [List.countP_filter];refine List.countP_congr λs _=>?_;simp
  ·rw [if_neg q];refine gx λhm=>q (u5.mp hm).2.symm
 clear h1 hy;induction na with
 |nil=>exact absurd hx aV
 |cons a r ih=>
  have Ip:=bu.mp nd;rw [bz,List.count_append,h2];rcases jJ hx with e|hx
  ·subst e;rw [if_pos rfl];have:(r.flatMap (gT t y)).count x=0:=by
    refine gx λhm=>?_;refine aR (cJ.mp hm) λi hi hm=>?_;exact Ip.1 ((u5.mp hm).2▸hi)
   exact congrArg (_+ ·) this
  ·rw [if_neg (λ(q:a=x)=>Ip.1 (q▸hx)),ih Ip.2 hx];exact fH _
end
def ya(p:List NV × List Str)(y:Str):List NV × List Str:=(x7 p.1 y).foldl y6 (kI y (-2) p.1,p.2)
def nU(G:List NV)(rl:List Str):List NV × List Str:=rl.foldl ya (z1 G rl,[])
structure RI(na:List Str)(t:Str->List Str)(G:List NV)(D rl:List Str):Prop where
 nm:∀x,x∈G.map (·.1)↔x∈na
 ss:∀x∈na,x7 G x=gL na t x
 np:∀x∈na,x∉D->kM G x=((rU na t x).length:Int)-(O4 na t x D:Int)
 nd:rl.Nodup
 dn:D.Nodup
 rd:∀x,x∈rl↔x∈na/\x∉D/\∀p∈rU na t x,p∈D
 cl:∀x∈D,x∈na/\∀p∈rU na t x,p∈D
section
variable{na:List Str}{G:List NV}{D rl:List Str}
theorem HZ:∀(ys:List Str) (G:List NV),(∀y∈ys,y∈G.map (·.1))->Sm G (z1 G ys)/\∀x,x∉ys->kM (z1 G ys) x=kM G x:=by
 intro ys;induction ys with
 |nil=>exact λG _=>⟨.refl,λ_ _=>rfl⟩
 |cons y ys ih=>
  intro G h;obtain ⟨a,b⟩:=ih (kI y (-1) G) λz hz=>by rw [lA];exact h z (i8 _ hz)
  refine ⟨Sm.kI.trans a,λx hx=>?_⟩;have hx':x≠y/\x∉ys:=⟨λq=>hx (q▸fm ..),λq=>hx (i8 _ q)⟩;refine (b x hx'.2).trans ?_;rw [vK (h y (fm ..)),if_neg hx'.1]
theorem Ed{p:Str}(h:p∈rU na t x):p∈na:=iK (bL.mp h).2
theorem R9(hx:x∈gL na t y)(hy:y∈na):x∈na/\y∈rU na t x:=by
 have:=bL.mp (Ec.mp hx);exact ⟨this.1,bL.mpr ⟨iK this.2,decide_eq_true hy⟩⟩
structure RS(na:List Str)(t:Str->List Str)(G:List NV)(D rl Q:List Str)(p:List NV × List Str):Prop where
 sm:Sm G p.1
 np:∀x∈na,x∉D->x∉rl->kM p.1 x=((rU na t x).length:Int)-(O4 na t x (D++Q):Int)
 nd:p.2.Nodup
 rd:∀x,x∈p.2↔x∈na/\x∉D/\x∉rl/\kM p.1 x=0
theorem RS.step(nd:na.Nodup)(h:RI na t G D rl){Q R:List Str}(e:rl=Q++y::R){p:List NV × List Str}(s:RS na t G D rl Q p):RS na t G D rl (Q++ [y]) (ya p y):=by
 have U8:y∈rl:=e▸cI _ (fm ..);refine cW ((h.rd y).mp U8) λhy Z2 hyp=>?_;have hyQ:y∉D++Q:=λq=>by
  rcases aG.mp q with q|q
  ·exact Z2 q
  ·have:=h.nd;rw [e,bo] at this;exact this.2.2 y q y (fm ..) rfl
 have hss:x7 p.1 y=gL na t y:=(s.sm.ss y).trans (h.ss y hy);have Ex:∀x∈gL na t y,x∈na/\x∉D/\x∉rl:=λx hx=>by
  obtain ⟨h1,h2⟩:=R9 hx hy;exact ⟨h1,λq=>Z2 ((h.cl x q).2 y h2),λq=>Z2 (((h.rd x).mp q).2.2 y h2)⟩
 have hnm:∀x∈na,x∈p.1.map (·.1):=λx hx=>by rw [s.sm.nm];exact (h.nm x).mpr hx
 have X3:∀x,x≠y->kM (kI y (-2) p.1) x=kM p.1 x:=λx q=>by rw [vK (hnm y hy),if_neg q]
 have hne:∀x∈gL na t y,x≠y:=λx hx q=>(Ex x hx).2.2 (q▸U8);have U9:∀x∈na,(gL na t y).count x=(rU na t x).count y:=λx hx=>NN nd hx hy;have Z3:∀x,O4 na t x (D++(Q++ [y]))=O4 na t x (D++Q)+(rU na t x).count y:=λx=>by rw [←aQ];exact QJ hyQ
 refine dD (NM (gL na t y) (kI y (-2) p.1) p.2 (λx hx=>by
  obtain ⟨h1,h2,h3⟩:=Ex x hx;refine ⟨by rw [lA];exact hnm x h1,?_⟩;rw [X3 x (hne x hx),s.np x h1 h2 h3,U9 x h1];have:=R8 (na:=na) (t:=t) (x:=x) (D:=D++(Q++ [y]));rw [Z3] at this;exact Int.le_sub_left_of_add_le (jd.mpr this))) λext G' e1 YA n1 nd1 m1=>?_
 have E:ya p y=(G',p.2++ext):=by unfold ya;rw [hss];exact e1
 rw [E];have YB:∀x∈na,x∉D->x∉rl->kM G' x=kM p.1 x-((gL na t y).count x:Int):=λx h1 h2 h3=>by rw [n1,X3 x λq=>h3 (q▸U8)]
 refine ⟨s.sm.trans (Sm.kI.trans YA),λx h1 h2 h3=>?_,?_,λx=>?_⟩
 ·show kM G' x=_;rw [YB x h1 h2 h3,s.np x h1 h2 h3,Z3,U9 x h1];exact Int.sub_sub _ _ _
 ·show (p.2++ext).Nodup;refine bo.mpr ⟨s.nd,nd1,λa ha b hb q=>?_⟩;subst q;have h0:=((s.rd a).mp ha).2.2.2;obtain ⟨hb1,hb2⟩:=(m1 a).mp hb;rw [X3 a (hne a hb1),h0] at hb2;have:=qe.mpr hb1;exact absurd (nr.mp hb2) (bP this)
 ·show x∈p.2++ext↔_/\_/\_/\kM G' x=0;rw [aG,s.rd,m1];constructor
  ·rintro (⟨h1,h2,h3,h4⟩|⟨h1,h2⟩)
   ·refine ⟨h1,h2,h3,?_⟩;rw [YB x h1 h2 h3,h4];have h5:=s.np x h1 h2 h3;have:=R8 (na:=na) (t:=t) (x:=x) (D:=D++(Q++ [y]));rw [Z3] at this;rw [U9 x h1,Nat.le_zero.mp (Nat.le_of_add_le_add_left (ai this (ar (nr.mp (gJ.mp (h5.symm.trans h4))))))];rfl
   ·refine cW (Ex x h1) λa b c=>?_;refine ⟨a,b,c,?_⟩;rw [X3 x (hne x h1)] at h2;rw [YB x a b c,h2];exact Int.sub_self _
  ·rintro ⟨h1,h2,h3,h4⟩;rw [YB x h1 h2 h3] at h4;by_cases q:x∈gL na t y
   ·exact .inr ⟨q,by refine (X3 x (hne x q)).trans ?_;exact gJ.mp h4⟩
   ·rw [gx q] at h4;exact .inl ⟨h1,h2,h3,gJ.mp h4⟩
theorem RS.steps(nd:na.Nodup)(h:RI na t G D rl):∀{R Q:List Str}{p:List NV × List Str},rl=Q++R->RS na t G D rl Q p->RS na t G D rl rl (R.foldl ya p):=by
 intro R;induction R with
 |nil=>intro Q p e s;rw [bB] at e;subst e;exact s
 |cons y R ih=>exact λe s=>ih (by rw [e,aQ];rfl) (s.step nd h e)
theorem RI.round(nd:na.Nodup)(h:RI na t G D rl):RI na t (nU G rl).1 (D++rl) (nU G rl).2:=by
 obtain ⟨o1,o2⟩:=HZ rl G λy hy=>(h.nm y).mpr ((h.rd y).mp hy).1;have s0:RS na t G D rl [] (z1 G rl,[]):=by
  refine ⟨o1,λx h1 h2 h3=>?_,dz,λx=>⟨λq=>absurd q aV,λ⟨h1,h2,h3,h4⟩=>?_⟩⟩
  ·show kM (z1 G rl) x=_;rw [o2 x h3,bB];exact h.np x h1 h2
  ·exfalso;have h5:kM (z1 G rl) x=0:=h4;rw [o2 x h3,h.np x h1 h2] at h5;exact h3 ((h.rd x).mpr ⟨h1,h2,HY.mp ((nr.mp (gJ.mp h5)).symm)⟩)
 have s:=RS.steps nd h (R:=rl) (Q:=[]) rfl s0;have hD:∀x,x∉D++rl↔x∉D/\x∉rl:=λx=>by rw [aG,not_or]
 refine ⟨λx=>by rw [show (nU G rl).1.map (·.1)=_ from s.sm.nm];exact h.nm x,λx hx=>(s.sm.ss x).trans (h.ss x hx),λx h1 h2=>s.np x h1 ((hD x).mp h2).1 ((hD x).mp h2).2,s.nd,?_,λx=>?_,λx hx=>?_⟩
 ·exact bo.mpr ⟨h.dn,h.nd,λa ha b hb q=>((h.rd b).mp hb).2.1 (q▸ha)⟩
 ·refine (s.rd x).trans ?_;rw [hD];constructor
  ·rintro ⟨h1,h2,h3,h4⟩;have h5:kM (nU G rl).1 x=0:=h4;rw [show kM (nU G rl).1 x=_ from s.np x h1 h2 h3] at h5;exact ⟨h1,⟨h2,h3⟩,HY.mp ((nr.mp (gJ.mp h5)).symm)⟩
  ·rintro ⟨h1,⟨h2,h3⟩,h4⟩;refine ⟨h1,h2,h3,?_⟩;have:=HY.mpr h4;show kM (nU G rl).1 x=0;rw [show kM (nU G rl).1 x=_ from s.np x h1 h2 h3];exact gJ.mpr (congrArg _ this.symm)
 ·rcases aG.mp hx with hx|hx
  ·obtain ⟨a,b⟩:=h.cl x hx;exact ⟨a,λp hp=>cf _ (b p hp)⟩
  ·refine cW ((h.rd x).mp hx) λa b c=>?_;exact ⟨a,λp hp=>cf _ (c p hp)⟩
theorem RI.first(nd:na.Nodup)(hg:((gn na t na []).map (·.1)).Nodup):RI na t (gn na t na []) [] (gm (gn na t na [])):=by
 have hnp:∀x∈na,kM (gn na t na []) x=((rU na t x).length:Int):=λx hx=>by
  rw [(Bu hx na [] nd).2,if_pos hx];show (0:Int)+_=_;exact Int.zero_add _
 refine ⟨λx=>lE,λx hx=>(Bu hx na [] nd).1,λx hx _=>?_,?_,dz,λx=>?_,λx hx=>absurd hx aV⟩
 ·refine (hnp x hx).trans ?_;show _=_-((List.countP _ _:Nat):Int);simp
 ·exact (iP.map _).nodup hg
 ·unfold gm;refine (aT).trans ?_;have find:∀e∈gn na t na [],kM (gn na t na []) e.1=e.2.1:=λe he=>by
   have:∀l:List NV,(l.map (·.1)).Nodup->e∈l->l.find? (λa=>a.1=e.1)=af e:=by
    intro l;induction l with
    |nil=>exact λ_ h=>absurd h aV
    |cons a l ih=>
     intro hn hm;have hn':=bu.mp hn;rcases jJ hm with rfl|hm
     ·exact (mi (by simp))
     ·rw [jm (by
       have:a.1≠e.1:=λq=>hn'.1 (aT.mpr ⟨e,hm,q.symm⟩);simpa using this)]
      exact ih hn'.2 hm
   unfold kM;refine (this _ hg he)▸ ?_;rfl
  constructor
  ·rintro ⟨e,he,rfl⟩;obtain ⟨h1,h2⟩:=bL.mp he;have hx:e.1∈na:=lE.mp (aT.mpr ⟨e,h1,rfl⟩);refine ⟨hx,aV,?_⟩;have h3:=find e h1;rw [hnp _ hx,iK h2] at h3;have:(rU na t e.1)= []:=gC.mp (nr.mp h3);rw [this];exact λp hp=>absurd hp aV
  ·rintro ⟨hx,_,hp⟩;obtain ⟨e,he,rfl⟩:=aT.mp (lE.mpr hx);refine ⟨e,bL.mpr ⟨he,decide_eq_true ?_⟩,rfl⟩;(refine (find e he).symm.trans ?_;refine (hnp _ hx).trans ?_);have:(rU na t e.1)= []:=by
    cases q:rU na t e.1 with
    |nil=>rfl
    |cons a r=>exact absurd (hp a (q▸fm ..)) aV
   refine this▸ ?_;rfl
end
def u6(na:List Str)(t:Str->List Str):Nat->Str->Bool
 |0,_=>bf
 |k+1,x=>(rU na t x).all (u6 na t k)
noncomputable def ub(na:List Str)(t:Str->List Str):Nat->Str->List Str
 |0,x=>[x]
 |k+1,x=>(t x).flatMap λc=>if c∈na then ub na t k c else [c]
noncomputable def u7(na:List Str)(t:Str->List Str)(s:List Str):List Str:=s.flatMap λc=>if c∈na then t c else [c]
def jP(na:List Str)(t:Str->List Str)(x:Str):Nat->Nat->Nat × List Str
 |0,_=>(4,[])
 |n+1,k=>if u6 na t (k+1) x=ao then (k,ub na t (k+1) x) else jP na t x n (k+1)
def C2(na:List Str)(t:Str->List Str)(x:Str):Nat:=(jP na t x 4 0).1
def lh(na:List Str)(t:Str->List Str):Nat->List NV × List Str × List Str
 |0=>(gn na t na [],[],gm (gn na t na []))
 |k+1=>((nU (lh na t k).1 (lh na t k).2.2).1,(lh na t k).2.1++(lh na t k).2.2,(nU (lh na t k).1 (lh na t k).2.2).2)
section
variable{na:List Str}
theorem WD(k:Nat)(c:Str):u7 na t (if c∈na then ub na t k c else [c])=if c∈na then ub na t (k+1) c else [c]:=by
 induction k generalizing c with
 |zero=>
  by_cases h:c∈na
  ·rw [if_pos h,if_pos h];show ([c].flatMap _)=(t c).flatMap _;rw [jn,if_pos h];have:(λc=>if c∈na then ub na t 0 c else [c])=λc=>[c]:=by
    funext c;split<;>rfl
   rw [this];simp
  ·rw [if_neg h,if_neg h];show [c].flatMap _=_;rw [jn,if_neg h]
 |succ k ih=>
  by_cases h:c∈na
  ·rw [if_pos h,if_pos h];show ((t c).flatMap _).flatMap _=(t c).flatMap _;rw [List.flatMap_assoc];exact congrArg (λf=>(t c).flatMap f) (funext λc'=>ih c')
  ·rw [if_neg h,if_neg h];show [c].flatMap _=_;rw [jn,if_neg h]
theorem Ee(hx:x∈na)(k:Nat):u7 na t (ub na t k x)=ub na t (k+1) x:=by
 have:=WD (na:=na) (t:=t) k x
 rwa [if_pos hx,if_pos hx] at this
theorem NO(k:Nat):∀x∈na,(ub na t k x).filter (λc=>decide (c∈na))= []↔u6 na t k x=ao:=by
 induction k with
 |zero=>
  intro x hx;show [x].filter _= []↔bf=ao;rw [cu (by simpa using hx)];simp
 |succ k ih=>
  intro x hx;show ((t x).flatMap _).filter _= []↔(rU na t x).all (u6 na t k)=ao;rw [v9,List.flatMap_eq_nil_iff,bK];constructor
  ·intro h p hp;have YC:=bL.mp hp;have hn:=iK YC.2;have:=h p YC.1;rw [if_pos hn] at this;exact (ih p hn).mp this
  ·intro h c hc;by_cases q:c∈na
   ·rw [if_pos q];exact (ih c q).mpr (h c (bL.mpr ⟨hc,decide_eq_true q⟩))
   ·rw [if_neg q,b7 (by simpa using q)];rfl
theorem WE:∀{x:Str},u6 na t k x=ao->u6 na t (k+1) x=ao:=by
 induction k with
 |zero=>intro x h;injection h
 |succ k ih=>
  intro x h;have h:=bK.mp h;exact bK.mpr λp hp=>ih (h p hp)
theorem Bv(h:k<=j):u6 na t k x=ao->u6 na t j x=ao:=by
 induction h with
 |refl=>exact id
 |step _ ih=>exact λq=>WE (ih q)
theorem Jv:∀{x:Str},u6 na t k x=ao->∀j,k<=j->ub na t j x=ub na t k x:=by
 induction k with
 |zero=>intro x h;injection h
 |succ k ih=>
  intro x h j hj;have h:=bK.mp h;obtain ⟨j,rfl⟩:∃i,j=i+1:=⟨j-1,(gh (sI hj)).symm⟩;show (t x).flatMap _=(t x).flatMap _;have e:∀c∈t x,(if c∈na then ub na t j c else [c])=if c∈na then ub na t k c else [c]:=λc hc=>by
   by_cases q:c∈na
   ·rw [if_pos q,if_pos q,ih (h c (bL.mpr ⟨hc,decide_eq_true q⟩)) j (fc hj)]
   ·rw [if_neg q,if_neg q]
  rw [zu,zu,d9 e]
theorem vL(x:Str):∀(n k:Nat),k+n=4->u6 na t k x=bf->(∃j,k<=j/\j<4/\u6 na t (j+1) x=ao/\u6 na t j x=bf/\jP na t x n k=(j,ub na t (j+1) x))∨(u6 na t 4 x=bf/\jP na t x n k=(4,[])):=by
 intro n;induction n with
 |zero=>intro k hk h;obtain rfl:k=4:=hk;exact .inr ⟨h,rfl⟩
 |succ n ih=>
  intro k hk h;show (∃j,_/\_/\_/\_/\(if u6 na t (k+1) x=ao then _ else _)=_)∨(_/\(if u6 na t (k+1) x=ao then _ else _)=_);by_cases q:u6 na t (k+1) x=ao
  ·rw [if_pos q];exact .inl ⟨k,ax _,Vk hk,q,h,rfl⟩
  ·rw [if_neg q];rcases ih (k+1) ((aN _ _ _).trans hk) (by simpa using q) with ⟨j,h1,h2⟩|h1
   ·exact .inl ⟨j,dY h1,h2⟩
   ·exact .inr h1
theorem H0(hk:k<4):C2 na t x=k↔u6 na t (k+1) x=ao/\u6 na t k x=bf:=by
 unfold C2;rcases vL (na:=na) (t:=t) x 4 0 rfl rfl with ⟨j,_,h2,h3,h4,h5⟩|⟨h1,h2⟩
 ·rw [h5];constructor
  ·rintro rfl;exact ⟨h3,h4⟩
  ·rintro ⟨a,b⟩;show j=k;rcases Nat.lt_trichotomy j k with h|h|h
   ·rw [Bv (by exact h:j+1<=k) h3] at b;injection b
   ·exact h
   ·rw [Bv (by exact h:k+1<=j) a] at h4;injection h4
 ·rw [h2];constructor
  ·intro h;have:4=k:=h;exact absurd this.symm (bP hk)
  ·rintro ⟨a,_⟩;rw [Bv (by exact hk:k+1<=4) a] at h1;injection h1
theorem NP(h:C2 na t x<4):jP na t x 4 0=(C2 na t x,ub na t 4 x):=by
 rcases vL (na:=na) (t:=t) x 4 0 rfl rfl with ⟨j,_,h2,h3,h4,h5⟩|⟨h1,h2⟩
 ·unfold C2;rw [h5,Jv h3 4 (h2)]
 ·unfold C2 at h;rw [h2] at h;exact absurd h (aX _)
theorem NQ:C2 na t x<4↔u6 na t 4 x=ao:=by
 constructor
 ·intro h;exact Bv (by exact h:C2 na t x+1<=4) ((H0 h).mp rfl).1
 ·intro h;rcases vL (na:=na) (t:=t) x 4 0 rfl rfl with ⟨j,_,h2,_,_,h5⟩|⟨h1,_⟩
  ·unfold C2;rw [h5];exact h2
  ·rw [h] at h1;injection h1
theorem C3(nd:na.Nodup)(hg:((gn na t na []).map (·.1)).Nodup)(k:Nat):RI na t (lh na t k).1 (lh na t k).2.1 (lh na t k).2.2:=by
 induction k with
 |zero=>exact RI.first nd hg
 |succ k ih=>exact ih.round nd
theorem vM(nd:na.Nodup)(hg:((gn na t na []).map (·.1)).Nodup)(k:Nat):∀x,x∈(lh na t k).2.1↔x∈na/\u6 na t k x=ao:=by
 induction k with
 |zero=>exact λx=>⟨λh=>absurd h aV,λh=>by injection h.2⟩
 |succ k ih=>
  intro x;have h:=C3 nd hg k;show x∈_++_↔_/\(rU na t x).all (u6 na t k)=ao;rw [aG,h.rd,bK];constructor
  ·rintro (q|⟨a,_,c⟩)
   ·obtain ⟨a,b⟩:=h.cl x q;exact ⟨a,λp hp=>((ih p).mp (b p hp)).2⟩
   ·exact ⟨a,λp hp=>((ih p).mp (c p hp)).2⟩
  ·rintro ⟨a,b⟩;by_cases q:x∈(lh na t k).2.1
   ·exact .inl q
   ·exact .inr ⟨a,q,λp hp=>(ih p).mpr ⟨Ed hp,b p hp⟩⟩
theorem F0(nd:na.Nodup)(hg:((gn na t na []).map (·.1)).Nodup)(hk:k<4):∀x,x∈(lh na t k).2.2↔x∈na/\C2 na t x=k:=by
 intro x;have h:=C3 nd hg k;rw [h.rd,vM nd hg,H0 hk];constructor
 ·rintro ⟨a,b,c⟩;refine ⟨a,bK.mpr λp hp=>((vM nd hg k p).mp (c p hp)).2,?_⟩;cases q:u6 na t k x with
  |false=>rfl
  |true=>exact absurd ⟨a,q⟩ b
 ·rintro ⟨a,b,c⟩;refine ⟨a,λq=>by rw [q.2] at c;injection c,λp hp=>(vM nd hg k p).mpr ⟨Ed hp,bK.mp b p hp⟩⟩
theorem QK{K:Nat}(h:∀x∈na,u6 na t (K+1) x=ao->u6 na t K x=ao):∀j,∀x∈na,u6 na t (K+j) x=ao->u6 na t K x=ao:=by
 have key:∀j,∀x∈na,u6 na t (K+j+1) x=ao->u6 na t (K+j) x=ao:=by
  intro j;induction j with
  |zero=>exact h
  |succ j ih=>
   intro x hx q;have q:=bK.mp q;exact bK.mpr λp hp=>ih p (Ed hp) (q p hp)
 intro j;induction j with
 |zero=>exact λ_ _ q=>q
 |succ j ih=>exact λx hx q=>ih x hx (key j x hx q)
theorem QL(nd:na.Nodup)(hg:((gn na t na []).map (·.1)).Nodup)(h4:na.length<=4):∃K,K<=4/\(∀k,k<K->(lh na t k).2.2≠ [])/\(lh na t K).2.2= []:=by
 have len:∀k,(∀j,j<k->(lh na t j).2.2≠ [])->k<=(lh na t k).2.1.length:=by
  intro k;induction k with
  |zero=>exact λ_=>eS _
  |succ k ih=>
   intro h;have h1:=ih λj hj=>h j (aD hj (bU _));have h2:=List.length_pos_iff.mpr (h k (bU _));show _<=vg ((lh na t k).2.1++(lh na t k).2.2);rw [aq];exact dW h1 h2
 have dec:∀n,(∃K,K<n/\(∀k,k<K->(lh na t k).2.2≠ [])/\(lh na t K).2.2= [])∨(∀k,k<n->(lh na t k).2.2≠ []):=by
  intro n;induction n with
  |zero=>exact .inr λk hk=>absurd hk (gI _)
  |succ n ih=>
   rcases ih with ⟨K,a,b⟩|h
   ·exact .inl ⟨K,aD a (bU _),b⟩
   ·by_cases q:(lh na t n).2.2= []
    ·exact .inl ⟨n,bU _,h,q⟩
    ·refine .inr λk hk=>?_;rcases ew k n with c|c
     ·exact h k c
     ·obtain rfl:k=n:=ib (dF hk) c;exact q
 rcases dec 4 with ⟨K,a,b⟩|h
 ·exact ⟨K,bS a,b⟩
 ·refine ⟨4,ax _,h,?_⟩;have hr:=C3 nd hg 4;have hl:=len 4 h;cases q:(lh na t 4).2.2 with
  |nil=>rfl
  |cons x r=>
   refine cW ((hr.rd x).mp (q▸fm ..)) λa b _=>?_;have:=jt (l:=x::(lh na t 4).2.1) (m:=na) (bu.mpr ⟨b,hr.dn⟩) (λy hy=>by
    rcases jJ hy with rfl|hy
    ·exact a
    ·exact (hr.cl y hy).1)
   simp only [aU] at this;exact absurd (ag (aW hl this) h4) (aX _)
end
theorem C4(h:k<n)(hn:n<=1000000):qT (k:Int) n=af k:=by
 unfold qT;refine (if_pos (qi (bS (ag h hn)) rfl)).trans ?_;unfold oU;rw [if_neg (mO.mpr (d0 _))];exact if_pos (by rw [decide_eq_true (d0 k),decide_eq_true (oG.mpr h)];rfl)
theorem yb(h:os[i]? =af (.list xs)∨os[i]? =af (.tuple xs))(hk:xs[k]? =af v)(hs:xs.length<=1000000):d8 c (.ref i) (.int k) z ⟨fr,os⟩=af (v,⟨fr,os⟩):=by
 have hl:k<xs.length:=(cS.mp hk).1;have e:((qT k xs.length).bind λj=>xs[j]?)=af v:=by rw [C4 hl hs,ct,hk]
 rcases h with h|h
 ·exact (ba (eC h z fr)).trans (fj e z _)
 ·exact (ba (eC h z fr)).trans (fj e z _)
theorem args_get{e t:Nat}(h:os[e]? =af (.exc 55 t)):eE (cx P aj cQ hd) (.ref e) "args" z ⟨fr,os⟩=af (.ref t,⟨fr,os⟩):=(ba (eC h z fr)).trans (Bd ⟨rfl,fm⟩ z _)
def Y7(os':List O)(S':Sr)(v:V):Option (List Str)->Prop
 |none=>v= .none
 |some ring=>∃t i,v= .ref t/\os'[t]? =af (.tuple [.str "ring",.ref i])/\os'[i]? =af (.list (ring.map .str))/\i∉idx S'/\t∉idx S'
theorem Ef(h:gy os S)(h0:S.rd=ae)(cl:Cl S g)(hz:Bj z os S){m:Nat}(hn:n<=200)(hr:findP g n (S.dj.map (·.nm)) []=af rg)(hne:∀ring,rg=af ring->ring≠ []):
  ∃os' v rd,cN P aj (m+3) (.top 229) [.ref S.i] os z=af (.ret v,os')/\Y7 os' {S with rd:=af (rd,gm (S.dj.map nv))} v rg/\gy os' {S with rd:=af (rd,gm (S.dj.map nv))}/\mx os S os' {S with rd:=af (rd,gm (S.dj.map nv))}:=by
 rw [yX];refine b9 (FU (P:=P) (aj:=aj) (m:=m) h h0 cl hz hn hr hne) λc9 c1 rd e1 p1 h1 f1=>?_;have b2:∀fr,ez (cy P aj (m+2)) (.ref S.i) "prepare" z ⟨fr,os⟩=_:=λfr=>h.D2 (Be P) (by rfl) fr z ao;have b3:=λfr o=>tm (P:=P) (aj:=aj) (cQ:=cN P aj (m+2)) (z:=z) (fr:=fr) (os:=os) (o:=o) (as:=[]) (jc (Be P));induction rg using aw with
 |none=>
  induction c1 using CR.casesOn with
  |exc e=>exact absurd p1 id
  |ret v=>
   have p1':v= .none:=p1;subst p1';refine ⟨c9,.none,rd,?_,rfl,h1,f1⟩;have:js (cy P aj (m+2)) (cx P aj (cN P aj (m+2)) bf) z ⟨[("sorter",.ref S.i)],os⟩=af (.ret .none,⟨[("sorter",.ref S.i)],c9⟩):=by
    (delta js;with_reducible repeat' (first|apply b2|apply e1|apply bt|apply bq|apply bG|exact bb|exact bA|(apply gE;apply b3)|with_unfolding_all rfl))
   refine this▸ ?_;rfl
 |some ring=>
  induction c1 using CR.casesOn with
  |ret v=>exact absurd p1 id
  |exc e=>
   refine ey p1 λt i q1 q2 q3 q4=>?_;have d1:=λfr=>args_get (P:=P) (aj:=aj) (cQ:=cN P aj (m+2)) (hd:=false) (z:=z) (fr:=fr) q1;have d2:=λfr=>yb (c:=cx P aj (cN P aj (m+2)) bf) (z:=z) (fr:=fr) (k:=1) (.inr q2) rfl (by exact iK rfl);have d2':∀fr,d8 (cx P aj (cN P aj (m+2)) bf) (.ref t) (.int 1) z ⟨fr,c9⟩=af (.ref i,⟨fr,c9⟩):=d2;have d3:=λfr=>dQ (o:=.tuple [.str "ring",.ref i]) rfl z fr c9;refine ⟨c9++ [.tuple [.str "ring",.ref i]],.ref c9.length,rd,?_,⟨c9.length,i,rfl,by simp,bI q3,q4,λq=>absurd (h1.lt _ q) (aX _)⟩,h1.grow _,f1.trans (mx.grow _)⟩;have hx:(55:bk)∈(cy P aj (m+2)).ie:=by exact fm
   have:js (cy P aj (m+2)) (cx P aj (cN P aj (m+2)) bf) z ⟨[("sorter",.ref S.i)],os⟩=af (.ret (.ref c9.length),⟨[],c9++ [.tuple [.str "ring",.ref i]]⟩):=by
    (delta js qD;with_reducible repeat' (first|apply b2|apply e1|apply d1|apply d2'|apply d3|apply HL q1 hx|exact br|apply bt|apply bq|apply bG|apply bO|exact bb|exact aE|exact bA|(apply gE;apply b3)|with_unfolding_all rfl))
   refine this▸ ?_;rfl
noncomputable def F4(k:Nat):Sr:=⟨k+1,k,k+2,[],ae,0,0⟩
theorem QM(hz:∀j∈z,j<os.length):cN P aj (n+1) (.top 137) [] os z=af (.ret (.ref (os.length+1)),os++ [.ns (uZ (os.length+2) .none 0 0),.inst 137 os.length,.dict []]):=by
 rw [Qq,M5 hz];rfl
theorem QN:gy (os++ [.ns (uZ (os.length+2) .none 0 0),.inst 137 os.length,.dict []]) (F4 os.length):=by
 refine ⟨?_,?_,?_,λx hx=>by simp [F4] at hx,λr l h=>by trivial,?_,dz⟩
 ·exact wW 1
 ·exact cL
 ·exact wW 2
 ·simp [idx,F4,Ck]
theorem NR{ps:List Str}(h:gy os S)(h0:S.rd=ae)(hz:Bj z os S)(hs:Sz S (2*ps.length+k+1))(fin:∀n,cN P aj (n+1) (.top 87) (.ref S.i:: .str nm::ps.map .str) os z=nA (xQ (cy P aj n) z ⟨[("self",.ref S.i),("node",.str nm),("predecessors",.ref os.length)],os++ [.tuple (ps.map .str)]⟩)):
  ∃os' S',cN P aj (n+3) (.top 87) (.ref S.i:: .str nm::ps.map .str) os z=af (.ret .none,os')/\gy os' S'/\mx os S os' S'/\Lk S S' (Cm (S.dj.map nv) nm ps)/\Sz S' k:=by
 have h1:=h.grow [.tuple (ps.map .str)];have f1:mx os S (os++ [.tuple (ps.map .str)]) S:=mx.grow _;have t1:(os++ [jk (ps.map .str)])[os.length]? =af (.tuple (ps.map .str)):=by simp
 have tn:os.length∉idx S:=λq=>absurd (h.lt _ q) (aX _);refine jV (Y4 (P:=P) (aj:=aj) (n:=n) (z:=z) h1 h0 t1 tn (hz.step f1) (nm:=nm) hs) λet os' S' e h2 f2 l2 s2=>?_;exact ⟨os',S',by rw [fin,e];rfl,h2,f1.trans f2,l2,s2⟩
theorem K8{a b k:Int}{s:eP}{r:Option (V × eP)}(h:0<k/\k<1000000)(e:alloc (.range a b k) z s=r):Dp [.int a,.int b,.int k] z s=r:=(Bd h z _).trans e
theorem K9(hk:k<=1000):dN (cx P aj cQ ao) (.type "range") [.int k] z ⟨fr,os⟩=af (.ret (.ref os.length),⟨fr,os++ [.range 0 k 1]⟩):=Ni (by
  have:=dQ (o:=.range 0 k 1) (by simp [sizeOk]) z fr os;assumption)
theorem Bw{a b k:Int}(h:os[i]? =af (.range a b k))(hc:0<k/\iM a b k=ao):gN (cx P aj cQ ao) (.ref i) z ⟨fr,os⟩=af (⟨qU a b k,ae⟩,⟨fr,os⟩):=Nl ((ba (eC h z fr)).trans (Bd hc z _))
theorem src_range(hk:k<=1000)(h:os[i]? =af (.range 0 k 1)):gN (cx P aj cQ ao) (.ref i) z ⟨fr,os⟩=af (⟨(cb 0 k).map λ(i:Nat)=>bD i,ae⟩,⟨fr,os⟩):=by
 have e:ed 0 (k:Int) 1=k:=by
  unfold ed;simp;try lia
 have e1:iM 0 (k:Int) 1=ao:=by
  have f:∀j:Int,0<=j->j<=1000->oN j=ao:=λj h1 h2=>by
   unfold oN;simp;exact ⟨je (by decide) h1,lB h2 (by decide)⟩
  unfold iM;simp [e,f 0 (by decide) (by decide),f 1 (by decide) (by decide),f k (d0 _) (jd.mpr hk)]
 refine (Bw h ⟨by decide,e1⟩).trans ?_;have e2:qU 0 (k:Int) 1=(cb 0 k).map λ(i:Nat)=>bD i:=by
  unfold qU;rw [e,vc];simp
 rw [e2]
noncomputable def F6:Option (List Str)->PyData
 |none=>.none
 |some r=>.list (r.map .str)
noncomputable def C5:Option (List Str)->PyData
 |none=>.none
 |some r=>.tuple [.str "ring",.list (r.map .str)]
theorem Bx(f:V->Option PyData)(hf:∀x,f (.str x)=af (.str x)):∀l:List Str,dataL f (l.map .str)=af (l.map .str)
 | []=>rfl
 |x::l=>by
  show (f (.str x)).bind (λd=>(dataL f (l.map .str)).map (d:: ·))=_;rw [hf,Bx f hf l];rfl
theorem By(n:Nat)(x:Str):eg os n (.str x)=af (.str x):=by induction n using nM<;>rfl
theorem yc{o:O}(h:os[i]? =af o):eg os (n+1) (.ref i)=Pf (eg os n) o:=by
 show (os[i]?).bind (Pf (eg os n))=_;rw [h];rfl
theorem y8(h:os[i]? =af (.list xs)):eg os (n+1) (.ref i)=(dataL (eg os n) xs).map .list:=yc h
theorem wY(h:os[i]? =af (.tuple xs)):eg os (n+1) (.ref i)=(dataL (eg os n) xs).map .tuple:=yc h
theorem kq(h:os[i]? =af (.list (l.map .str))):eg os (n+1) (.ref i)=af (.list (l.map .str)):=by
 rw [y8 h,Bx _ (By n)];rfl
theorem QO{osa:List O}(h:Y5 osa os v rg):eg os 7 v=af (F6 rg):=by
 induction rg using aw with
 |none=>have:v= .none:=h;subst this;rfl
 |some r=>refine cO h λi q'1 hi _=>?_;obtain rfl:=q'1;exact kq hi
theorem Jw{S':Sr}(h:Y7 os S' v rg):eg os 7 v=af (C5 rg):=by
 induction rg using aw with
 |none=>have:v= .none:=h;subst this;rfl
 |some r=>
  refine ey h λt i q'2 h1 h2 _=>?_;obtain rfl:=q'2;refine .trans (wY h1) ?_;simp only [dataL,By,kq h2,cU,ct];rfl
theorem y9(hk:∀j,j<os.length->os'[j]? =os[j]?):∀{n:Nat}{v:V}{d:PyData},eg os n v=af d->eg os' n v=af d:=by
 intro n;induction n with
 |zero=>exact λh=>h
 |succ n ih=>
  intro v d h;have hL:∀(xs:List V) (ds:List PyData),dataL (eg os n) xs=af ds->dataL (eg os' n) xs=af ds:=by
   intro xs;induction xs with
   |nil=>intro ds h;exact h
   |cons x xs Z4=>
    intro ds h;refine eY h λa h1 h=>lmap h λb h2 h=>?_;show (eg os' n x).bind (λd=>(dataL (eg os' n) xs).map (d:: ·))=_;rw [ih h1,Z4 b h2];exact congrArg af h
  induction v using V.casesOn with
  |ref i=>
   refine eY h λo ho h=>(yc ((hk i (aY ho)).trans ho)).trans ?_;induction o using O.casesOn with
   |list xs=>exact lmap h λds h1 h2=>by show (dataL (eg os' n) xs).map _=_;rw [hL xs ds h1];exact congrArg af h2
   |tuple xs=>exact lmap h λds h1 h2=>by show (dataL (eg os' n) xs).map _=_;rw [hL xs ds h1];exact congrArg af h2
   |_=>exact nn h
  |_=>exact h
section
theorem NS(q:bc x=bc y):x=y:=by injection q
open Classical in
theorem Eg(k:Str):∀xs:List Str,OY (.str k) (xs.map .str)=decide (k∈xs)
 | []=>rfl
 |x::xs=>by
  show (if bc x=bc k then ao else OY (.str k) (xs.map .str))=_;refine (Eg k xs)▸ ?_;by_cases h:x=k
  ·subst h;simp
  ·have h':¬k=x:=λe=>h e.symm;refine (if_neg λe=>h (NS e)).trans ?_;simp [h']
theorem Eh(xs:List Str):(xs.map bc).all isStr=ao:=by
 refine (List.all_map).trans ?_;exact bK.mpr λ_ _=>rfl
theorem in_list{xs:List Str}{k:Str}(h:os[i]? =af (.list (xs.map .str))):Pg c (.str k) (.ref i) z ⟨fr,os⟩=af (decide (k∈xs),⟨fr,os⟩):=by
 refine (ba (eC h z fr)).trans ((Bd (by rw [Eh];rfl) z _).trans ?_);rw [Eg];rfl
open Classical in
theorem F7:∀{l r:List Str}(k:Nat),y∈l->∃j,posOf (.str y) ((l++r).map .str) k=af (k+j)/\j<l.length/\l.drop j=l.dropWhile (λa=>decide (a≠y))
 |a::l,r,k,h=>by
  by_cases q:a=y
  ·subst q;refine ⟨0,?_,by exact lR _,by simp⟩;show (if bc a=bc a then af k else _)=_;refine (if_pos rfl).trans ?_;rfl
  ·have hl:y∈l:=(jJ h).resolve_left λe=>q e.symm;refine cO (F7 (r:=r) (k+1) hl) λj h1 h2 h3=>?_;refine ⟨j+1,?_,by simp;omega,?_⟩
   ·show (if bc a=bc y then af k else posOf (.str y) ((l++r).map .str) (k+1))=_;(refine (if_neg λe=>q (NS e)).trans ?_;refine (h1).trans ?_);congr 1;exact aN _ _ _
   ·rw [vX,h3,kL,if_pos (by simpa using q)]
theorem QP{xs:List Str}(h:os[i]? =af (.list (xs.map .str)))(hp:posOf (.str y) (xs.map .str) 0=af j):ft c "list.index" (.ref i) [.str y] z ⟨fr,os⟩=af (.int j,⟨fr,os⟩):=by
 exact Qs.trans ((ba (eC h z fr)).trans ((Bd (by rw [Eh];rfl) z _).trans (fj (by rw [hp];rfl) z _)))
open Classical in
theorem add_int(a b:Int):binC c .Add (.int a) (.int b) z ⟨fr,os⟩=af (.int (a+b),⟨fr,os⟩):=rfl
theorem Ak{a b:V}{d:PyData}(h1:eg os 8 a=af d)(h2:eg os 8 b=af d)(hc:d.canLay0=ao)(hd:d.depth<=20):EL os a b=af ao:=by
 refine (show EL os a b=(eg os 8 a).bind λda=>(eg os 8 b).bind λdb=>if da.canLay0=ao/\db.canLay0=ao/\da.depth<=20 then af (mP da db) else ae from rfl).trans ?_;rw [h1,h2,ct,ct,if_pos ⟨hc,hc,hd⟩,SeqAt.eqv_refl d hc]
theorem rV:∀{ws:List Str},(∀x∈ws,eO x=ao)->iy (ws.map .str)=ao
 | [],_=>rfl
 |x::ws,h=>by
  simp only [bx,iy,BW];rw [h x (fm ..),rV λy hy=>h y (i8 _ hy)];rfl
theorem mM:∀ws:List Str,dJ (ws.map .str)=0
 | []=>rfl
 |x::ws=>by
  have:dJ (xn x::ws.map .str)=max 0 (dJ (ws.map .str)):=by
   first|rfl|simp [dJ,EB]
  rw [bx,this,mM ws];rfl
theorem eq_nil{ws:List Str}(h1:os[i]? =af (.list (ws.map .str)))(h2:os[j]? =af (.list []))(hw:∀x∈ws,eO x=ao):EL os (.ref i) (.ref j)=af (decide (ws= [])):=by
 have d1:=kq (n:=7) h1;have d2:=kq (n:=7) (l:=[]) h2;simp only [EL,d1,d2];have l1:(GC (ws.map .str)).canLay0=ao:=by simp only [BW];exact rV hw
 have l2:(GC (ws.map .str)).depth<=20:=by simp only [EB];rw [mM];decide
 refine (if_pos ⟨l1,by rfl,l2⟩).trans ?_;induction ws using aC<;>rfl
end
noncomputable def iH(c:Nat):Str:=⟨#[c]⟩
noncomputable def lets(w:Str):List Str:=w.cps.toList.map iH
def Sg(x:Str):Prop:=∃c,c<1114112/\x=iH c
noncomputable def cZ:List Str->Str
 | []=>⟨#[]⟩
 |a::r=>a++cZ r
noncomputable def bV:List Str:=[iH 97,iH 98,iH 99,iH 100]
section
variable{s:eP}
theorem F9(w:Str):iR w=(lets w).map .str:=by
 unfold iR lets;rw [dw];rfl
theorem NT(l:List Str):zA (l.map .str)=af (cZ l):=by
 induction l with
 |nil=>rfl
 |cons a l ih=>
  show (zA (l.map .str)).map (λt=>a++t)=_;rw [ih];rfl
theorem Jx(a b:Str):(a++b).cps.toList=a.cps.toList++b.cps.toList:=by
 show (a.cps++b.cps).toList=_;exact oj
theorem tr(h:∀x∈l,Sg x):lets (cZ l)=l:=by
 induction l with
 |nil=>rfl
 |cons a l ih=>
  refine aR (h a (fm ..)) λk _ q'1=>?_;obtain rfl:=q'1;show ((iH k++cZ l).cps.toList).map iH=_;rw [Jx,cw];show iH k::lets (cZ l)=_;exact congrArg _ (ih λx hx=>h x (i8 _ hx))
theorem rW(h:∀x∈l,Sg x):(cZ l).cps.size=l.length:=by
 have e:=congrArg vg (tr h);unfold lets at e;rw [aH] at e;exact e
theorem Ei(l m:List Str):cZ (l++m)=cZ l++cZ m:=by
 induction l with
 |nil=>
  show cZ m=(⟨#[]⟩:Str)++cZ m;show cZ m=⟨#[]++(cZ m).cps⟩;exact (pV)▸rfl
 |cons a l ih=>
  show a++cZ (l++m)=(a++cZ l)++cZ m;rw [ih];show (⟨a.cps++((cZ l).cps++(cZ m).cps)⟩:Str)=⟨(a.cps++(cZ l).cps)++(cZ m).cps⟩;exact (xb)▸rfl
theorem Al(x:Str):cZ [x]=x:=by
 show (⟨x.cps++ #[]⟩:Str)=x;exact congrArg _ (pU)
theorem Jy{a:Nat}(h:iH a=iH b):a=b:=by injection h with h;injection h with h;injection h
theorem WG(hx:Sg x)(hL:∀y∈L,Sg y):Pg c (.str x) (.str (cZ L)) z s=af (decide (x∈L),s):=by
 refine aR hx λk _ q'2=>?_;obtain rfl:=q'2;show af (!(fw (cZ L) (iH k) 0 (cZ L).length 1).isEmpty,s)=_;rw [show iH k=⟨#[k]⟩ from rfl,StrLaws.found_one];congr 2;refine decide_eq_decide.mpr ?_;constructor
 ·intro h;have:iH k∈lets (cZ L):=aT.mpr ⟨k,h,rfl⟩
  rwa [tr hL] at this
 ·intro h;rw [←tr hL] at h;refine aR (aT.mp h) λj hj e=>?_;exact Jy e▸hj
theorem qF(hx:Sg x)(hL:∀y∈L,Sg y):cmpC c .In (.str x) (.str (cZ L)) z s=af (.bool (decide (x∈L)),s):=uY (WG hx hL)
theorem nF(h:x∈bV):Sg x:=by
 simp only [bV,aZ,aV,or_false] at h;rcases h with rfl|rfl|rfl|rfl
 ·exact ⟨97,by decide,rfl⟩
 ·exact ⟨98,by decide,rfl⟩
 ·exact ⟨99,by decide,rfl⟩
 ·exact ⟨100,by decide,rfl⟩
theorem NU:ah "abcd" =cZ bV:=by kernel_rfl
theorem Ej:ah "" =cZ []:=by kernel_rfl
theorem Bz(hx:Sg x):cmpC c .In (.str x) (.str "abcd") z s=af (.bool (decide (x∈bV)),s):=by
 refine NU▸ ?_;exact qF hx λy=>nF
theorem Sa(hL:∀y∈L,Sg y)(hk:L[k]? =af x)(hl:L.length<=1000000):d8 c (.str (cZ L)) (.int k) z s=af (.str x,s):=by
 have hlt:k<L.length:=(cS.mp hk).1;have e:(cZ L).cps[k]?.map (λx=>bc ⟨#[x]⟩)=af (bc x):=by
  have:=congrArg (λl=>l[k]?) (tr hL);simp only [lets,ei,cV,hk] at this;cases q:(cZ L).cps[k]? with
  |none=>rw [q] at this;exact nn this
  |some j=>
   rw [q] at this;injection this with this
   show af (bc (iH j))=_;exact (this)▸rfl
 have hsz:(cZ L).cps.size=L.length:=rW hL;exact fj (o:=(qT (k:Int) (cZ L).cps.size).bind λj=>((cZ L).cps[j]?).map λx=>bc ⟨#[x]⟩) (by refine (C4 (hsz▸hlt) (hsz▸hl))▸ ?_;exact e) z s
theorem QQ(hk:bV[k]? =af x):d8 c (.str "abcd") (.int k) z s=af (.str x,s):=by
 refine NU▸ ?_;exact Sa (λy=>nF) hk (by decide)
theorem za:AA "index" =af "str.index" :=by kernel_rfl
theorem NW:ft c "str.index" o as z s=Dl o as z s:=by kernel_rfl
theorem Uo(hk:bV[k]? =af x):(fw (cZ bV) x 0 (cZ bV).length 1).head?=af k:=by
 have hlt:k<4:=(cS.mp hk).1;rcases k with _|_|_|_|k
 ·injection hk with hk;subst hk;kernel_rfl
 ·injection hk with hk;subst hk;kernel_rfl
 ·injection hk with hk;subst hk;kernel_rfl
 ·injection hk with hk;subst hk;kernel_rfl
 ·exact absurd hlt (cD.mpr (dH 4 _))
theorem BA(hk:bV[k]? =af x):ft c "str.index" (.str "abcd") [.str x] z s=af (.int k,s):=by
 refine NU▸ ?_;refine NW.trans ?_;exact fj (o:=(fw (cZ bV) x 0 (cZ bV).length 1).head?.map λ(i:Nat)=>bD (i:Int)) (by rw [Uo hk];rfl) z s
theorem QR{s t:Str}(hs:s=⟨#[]⟩)(h:os[i]? =af (.list xs))(hj:zA xs=af t)(ht:t.cps.size<=1000000):IG c (.str s) [.ref i] z ⟨fr,os⟩=af (.str t,⟨fr,os⟩):=by
 subst hs;exact (Bd (a:=eu c (.ref i)>>=λob=>ff ob.jX λxs=>lift (zA xs)>>=λt=>if t.cps.size<=1000000 then aA (bc t) else fail) (b:=fail) (p:=(⟨#[]⟩:Str)=⟨#[]⟩) rfl z _).trans ((ba (eC h z fr)).trans ((ba (fj hj z _)).trans (Bd ht z _)))
theorem zb(h:os[i]? =af (.list (l.map .str)))(hl:(cZ l).cps.size<=1000000):ft c "str.join" (.str "") [.ref i] z ⟨fr,os⟩=af (.str (cZ l),⟨fr,os⟩):=
 Ue.trans (QR rfl h (NT _) hl)
theorem qG(hL:∀y∈L,Sg y):gN (cx P aj cQ ao) (.str (cZ L)) z ⟨fr,os⟩=af (⟨L.map .str,ae⟩,⟨fr,os⟩):=by
 have e:iR (cZ L)=L.map .str:=by rw [F9,tr hL]
 refine (e).symm▸ ?_;rfl
theorem NX:gN (cx P aj cQ ao) (.str "abcd") z ⟨fr,os⟩=af (⟨bV.map .str,ae⟩,⟨fr,os⟩):=by
 refine NU▸ ?_;exact qG λy=>nF
theorem g8{acc:Nat}(ha:os[acc]? =af (.list xs))(hz:acc∉z)(hl:xs.length+1<=1000000)(v:V)(fr:eB):i4 c acc v z ⟨fr,os⟩=af ((),⟨fr,os.set acc (.list (xs++ [v]))⟩):=(ba (eC ha z fr)).trans (lQ (o:=.list (xs++ [v])) ha (decide_eq_true (by refine aq▸ ?_;exact hl)) hz fr)
theorem La{t:Nat}(h:os[t]? =af (.list xs)):zC (cx P aj cQ ao) (.ref t) z ⟨fr,os⟩=af (xs,⟨fr,os⟩):=ba (eC h z fr)
theorem H2{t:Nat}(h:os[t]? =af (.tuple xs)):zC (cx P aj cQ ao) (.ref t) z ⟨fr,os⟩=af (xs,⟨fr,os⟩):=ba (eC h z fr)
theorem iV{iv:α->V}{f:α->List V}{l:List α}(hb:∀uq i src,body uq i src=dk src.fz (fu (turn uq i) src.items))
  (hz:∀j∈z,j<os.length) (hf:∀j,fz=af j->j<os.length) (hN:(l.flatMap f).length<=1000000)
  (step:∀z':List Nat,(∀j∈z',j<os.length)->∀a∈l,∀iz c9 xs,Hi os.length os c9->c9[os.length]? =af (.list xs)->xs.length+(f a).length<=1000000->
   ∃kN dc,turn (ups fr) os.length (iv a) z' ⟨iz,c9⟩=af ((),⟨kN,dc⟩)/\dc[os.length]? =af (.list (xs++f a))/\Hi os.length os dc):
  ∃os',fg ups body ⟨l.map iv,fz⟩ z ⟨fr,os⟩=af (.ref os.length,⟨fr,os'⟩)/\os'[os.length]? =af (.list (l.flatMap f))/\Hi os.length os os':=by
 have hz':∀j∈fz.toList++z,j<os.length:=λj hj=>by
  rcases aG.mp hj with hj|hj
  ·exact hf j (yE.mp hj)
  ·exact hz j hj
 have key:∀(m:List α) (xs:List V) (iz:eB) (c9:List O),(∀a∈m,a∈l)->xs.length+(m.flatMap f).length<=1000000->Hi os.length os c9->c9[os.length]? =af (.list xs)->
   ∃kN dc,fu (turn (ups fr) os.length) (m.map iv) (fz.toList++z) ⟨iz,c9⟩=af ((),⟨kN,dc⟩)/\dc[os.length]? =af (.list (xs++m.flatMap f))/\Hi os.length os dc:=by
  intro m;induction m with
  |nil=>exact λxs iz c9 _ _ h1 h2=>⟨iz,c9,rfl,by rw [kz,bB];exact h2,h1⟩
  |cons a m ih=>
   intro xs iz c9 hm hl h1 h2;rw [bz,aq] at hl;refine ck (step _ hz' a (hm a (fm ..)) iz c9 xs h1 h2 (ai (bE (aF _ _) _) hl)) λkN dc e1 g1 g2=>?_;refine ck (ih (xs++f a) kN dc (λb hb=>hm b (i8 _ hb)) (by rw [aq];exact ai (ar (dC _ _ _)) hl) g2 g1) λLp iI e2 g3 g4=>?_;refine ⟨Lp,iI,?_,by rw [bz,←aQ];exact g3,g4⟩;exact (ba (m:=turn (ups fr) os.length (iv a)) e1).trans e2
 have h0:(os++ [cA []])[os.length]? =af (.list []):=cL;refine ck (key l [] [] (os++ [.list []]) (λ_ h=>h) (by simpa using hN) (Hi.grow (ax _) _) h0) λkN dc e g1 g2=>?_;refine ⟨dc,?_,g1,g2⟩;refine xW (et:=kN) rfl ?_;rw [hb];exact e
end
structure Tx(t:Str->List Str):Prop where
 sg:∀x∈bV,∀y∈t x,Sg y
 len:∀x∈bV,(t x).length<=9
def BB(t:Str->List Str):List V:=bV.map λx=>bc (cZ (t x))
theorem Ga(hk:bV[k]? =af x):(BB t)[k]? =af (.str (cZ (t x))):=by
 unfold BB;rw [ei,hk];rfl
theorem NY(h:x∈bV):∃k:Nat,bV[k]? =af x:=uk.mp h
theorem BC:(BB t).length<=1000000:=by unfold BB;rw [aH];decide
theorem wZ:dN (cx P aj cQ ao) (.type "range") [.int 4] z ⟨fr,os⟩=af (.ret (.ref os.length),⟨fr,os++ [.range 0 4 1]⟩):=K9 (k:=4) (by decide)
theorem H3(h:os[i]? =af (.range 0 4 1)):gN (cx P aj cQ ao) (.ref i) z ⟨fr,os⟩=af (⟨(cb 0 4).map λ(i:Nat)=>bD i,ae⟩,⟨fr,os⟩):=src_range (k:=4) (by decide) h
def O5(t:Str->List Str)(a:Str):Str:=if a∈bV then cZ (t a) else a
theorem NZ(l:List Str):cZ (l.map (O5 t))=cZ (u7 bV t l):=by
 induction l with
 |nil=>rfl
 |cons a l ih=>
  show O5 t a++cZ (l.map (O5 t))=cZ ((if a∈bV then t a else [a])++u7 bV t l);rw [Ei,ih];congr 1;unfold O5;by_cases h:a∈bV
  ·rw [if_pos h,if_pos h]
  ·rw [if_neg h,if_neg h,Al]
theorem H4(h:Tx t){s:List Str}(hs:∀y∈s,Sg y):∀y∈u7 bV t s,Sg y:=λy hy=>by
 refine aR (cJ.mp hy) λa ha hy=>?_;by_cases q:a∈bV
 ·rw [if_pos q] at hy;exact h.sg a q y hy
 ·rw [if_neg q,aL] at hy;subst hy;exact hs y ha
theorem Ek(h:Tx t)(s:List Str):(u7 bV t s).length<=9*s.length:=by
 induction s with
 |nil=>exact ax _
 |cons a s ih=>
  show ((if a∈bV then t a else [a])++u7 bV t s).length<=_;rw [aq,aU];have:(if a∈bV then t a else [a]).length<=9:=by
   by_cases q:a∈bV
   ·rw [if_pos q];exact h.len a q
   ·rw [if_neg q];exact dH 1 8
  exact VC this ih
theorem pK(f:α->β)(l:List α):(l.flatMap λa=>[f a]).length=l.length:=by
 induction l with
 |nil=>rfl
 |cons a l ih=>rw [bz,aq,ih,aU,aU];exact cF _ _
theorem pL(f:α->β)(l:List α):(l.flatMap λa=>[f a])=l.map f:=by
 induction l with
 |nil=>rfl
 |cons a l ih=>rw [bz,ih];rfl
theorem qH(p:α->Prop)[DecidablePred p](f:α->β)(l:List α):(l.flatMap λa=>if p a then [f a] else [])=(l.filter λa=>decide (p a)).map f:=by
 induction l with
 |nil=>rfl
 |cons a l ih=>
  rw [bz,ih];by_cases h:p a
  ·rw [if_pos h,cu (by simpa using h)];rfl
  ·rw [if_neg h,b7 (by simpa using h)];rfl
theorem N0(h:Tx t)(oR:os[tx]? =af (.list (BB t)))(hz:∀j∈z,j<os.length)(hf:getF fr "texts" =af (.ref tx)){s:List Str}(hs:∀y∈s,Sg y)(hl:s.length<=100000):
  ∃os',fg (λfr=>fh [(ah "texts",getF fr "texts")]) (λuq i src=>nS (cx P aj cQ ao) uq i src) ⟨s.map .str,ae⟩ z ⟨fr,os⟩=af (.ref os.length,⟨fr,os'⟩)/\os'[os.length]? =af (.list ((s.map (O5 t)).map .str))/\Hi os.length os os':=by
 refine cO (iV (fr:=fr) (os:=os) (z:=z) (ups:=λfr=>fh [(ah "texts",getF fr "texts")]) (body:=λuq i src=>nS (cx P aj cQ ao) uq i src) (turn:=λuq i v=>kZ (cx P aj cQ ao) uq i v) (fz:=none) (iv:=bc) (f:=λa=>[bc (O5 t a)]) (l:=s) (λ_ _ _=>rfl) hz (λ_ h=>by injection h) (by rw [pK];exact ai hl (ak rfl))
  (λz' hz' a ha iz c9 xs h1 h2 hN=>by
   have ht1:=(h1.keep tx (aY oR)).trans oR;have hacc:os.length∉z':=λq=>aX _ (hz' _ q);have c1:=λ(c:Cx) (s:eP)=>Bz (c:=c) (z:=z') (s:=s) (hs a ha);have hu:getF (fh [(ah "texts",getF fr "texts")]) "texts" =af (.ref tx):=by rw [hf];exact bb
   have p1:=λ(c:Cx) fr=>g8 (c:=c) h2 hacc hN (.str (O5 t a)) fr;refine ⟨putF iz "sign" (.str a),c9.set os.length (.list (xs++ [.str (O5 t a)])),?_,dA h2,h1.trans (Hi.set (ax _) _)⟩;by_cases q:a∈bV
   ·obtain ⟨k,hk⟩:=NY q;rw [decide_eq_true q] at c1;have m1:=λ(c:Cx) fr=>rr (c:=c) (z:=z') (fr:=fr) (os:=c9) (x:=ah "abcd") za;have s1:=λ(c:Cx) (s:eP)=>BA (c:=c) (z:=z') (s:=s) hk;have l2:=λfr=>iL (z:=z') (s:=⟨fr,c9⟩) hu;have i1:=λ(c:Cx) fr=>yb (c:=c) (z:=z') (fr:=fr) (.inl ht1) (Ga (t:=t) hk) BC;have e2:O5 t a=cZ (t a):=if_pos q;rw [e2] at p1 ⊢;(delta kZ;with_reducible repeat' (first|apply c1|apply m1|apply s1|apply l2|apply i1|apply p1|exact dR _ _ _|exact br|apply bt|apply bq|apply bG|apply bO|exact aE|apply av (by decide)|exact bb|apply bh (by decide)|exact aI|apply aO|exact bA|(apply b8;apply bX)|(apply bW;focus rfl)|rfl))
   ·rw [decide_eq_false q] at c1;have e2:O5 t a=a:=if_neg q;rw [e2] at p1 ⊢;(delta kZ;with_reducible repeat' (first|apply c1|apply p1|(apply ite_no;focus exact bj)|exact dR _ _ _|exact br|apply bt|apply bq|apply bG|apply bO|exact aE|apply av (by decide)|exact bb|apply bh (by decide)|exact aI|apply aO|exact bA|(apply b8;apply bX)|(apply bW;focus rfl)|rfl)))) λos' e g1 g2=>?_
 exact ⟨os',e,by rw [g1,pL,dw];rfl,g2⟩
theorem N4(hz:∀j∈z,j<os.length){s:List Str}(hs:∀y∈s,Sg y)(hl:s.length<=100000):
  ∃os',fg (λfr=>fh []) (λuq i src=>nT (cx P aj cQ ao) uq i src) ⟨s.map .str,ae⟩ z ⟨fr,os⟩=af (.ref os.length,⟨fr,os'⟩)/\os'[os.length]? =af (.list ((s.filter λa=>decide (a∈bV)).map .str))/\Hi os.length os os':=by
 have hN:(s.flatMap λa=>if a∈bV then [bc a] else []).length<=1000000:=by
  rw [qH,aH];have:=cK (λa=>decide (a∈bV)) s;exact ai (ai this hl) (ak rfl)
 refine cO (iV (fr:=fr) (os:=os) (z:=z) (ups:=λfr=>fh []) (body:=λuq i src=>nT (cx P aj cQ ao) uq i src) (turn:=λuq i v=>k8 (cx P aj cQ ao) uq i v) (fz:=none) (iv:=bc) (f:=λa=>if a∈bV then [bc a] else []) (l:=s) (λ_ _ _=>rfl) hz (λ_ h=>by injection h) hN
  (λz' hz' a ha iz c9 xs h1 h2 hN=>by
   have hacc:os.length∉z':=λq=>aX _ (hz' _ q);have c1:=λ(c:Cx) (s:eP)=>Bz (c:=c) (z:=z') (s:=s) (hs a ha);by_cases q:a∈bV
   ·rw [decide_eq_true q] at c1;simp only [if_pos q] at hN ⊢;have p1:=λ(c:Cx) fr=>g8 (c:=c) h2 hacc hN (.str a) fr;refine ⟨putF iz "sign" (.str a),c9.set os.length (.list (xs++ [.str a])),?_,dA h2,h1.trans (Hi.set (ax _) _)⟩;(delta k8;with_reducible repeat' (first|apply c1|apply p1|exact dR _ _ _|exact br|apply bt|apply bq|apply bG|apply bO|exact aE|apply av (by decide)|exact bb|apply bh (by decide)|exact aI|apply aO|exact bA|(apply b8;apply bX)|(apply bW;focus rfl)|rfl))
   ·rw [decide_eq_false q] at c1;simp only [if_neg q,bB] at hN ⊢;refine ⟨putF iz "sign" (.str a),c9,?_,h2,h1⟩;(delta k8;with_reducible repeat' (first|apply c1|(apply ite_no;focus exact bj)|exact dR _ _ _|exact br|apply bt|apply bq|apply bG|apply bO|exact aE|apply av (by decide)|exact bb|apply bh (by decide)|exact aI|apply aO|exact bA|(apply b8;apply bX)|(apply bW;focus rfl)|rfl)))) λos' e g1 g2=>?_
 exact ⟨os',e,by rw [g1,qH],g2⟩
theorem N7(h:Sg x):eO x=ao:=by
 refine aR h λc hc q'1=>?_;obtain rfl:=q'1;show (#[c]:Array Nat).all (λc=>decide (c<0x110000))=ao;simpa using hc
theorem El(h:∀x∈l,Sg x):∀x∈l,eO x=ao:=λx hx=>N7 (h x hx)
theorem N8(h:Tx t)(oR:os[tx]? =af (.list (BB t)))(hz:∀j∈z,j<os.length)(hf:getF fr "texts" =af (.ref tx)){s:List Str}(hs:∀y∈s,Sg y)(hl:s.length<=10000)(YD:getF fr "text" =af (.str (cZ s))):
  ∃et os' r,fN (cx P aj cQ ao) (.int k) z ⟨fr,os⟩=af (if (u7 bV t s).filter (λc=>decide (c∈bV))= [] then Fl.ret (.ref r) else .next,⟨et,os'⟩)/\Hi os.length os os'/\
   ((u7 bV t s).filter (λc=>decide (c∈bV))= []->os'[r]? =af (.tuple [.int k,.str (cZ (u7 bV t s))]))/\getF et "texts" =af (.ref tx)/\getF et "text" =af (.str (cZ (u7 bV t s))):=by
 have hs':=H4 h hs;have hl':=Ek h s;have s1:=λfr=>qG (P:=P) (aj:=aj) (cQ:=cQ) (z:=z) (fr:=fr) (os:=os) hs;refine cO (N0 (P:=P) (aj:=aj) (cQ:=cQ) (fr:=putF fr "times" (.int k)) h oR hz (av (by decide) hf) hs (ai hl (ak rfl))) λc9 e1 g1 i1=>?_;have m1:=λ(c:Cx) fr=>rr (c:=c) (z:=z) (fr:=fr) (os:=os) (x:=ah "") vI;have j1:=λ(c:Cx) fr=>zb (c:=c) (z:=z) (fr:=fr) g1 (by rw [NZ,rW hs'];exact qi (ai hl' (df 9 hl)) rfl);rw [NZ] at j1;have hz1:∀j∈z,j<c9.length:=λj hj=>ag (hz j hj) i1.len;have s2:=λfr=>qG (P:=P) (aj:=aj) (cQ:=cQ) (z:=z) (fr:=fr) (os:=c9) hs';refine cO (N4 (P:=P) (aj:=aj) (cQ:=cQ) (fr:=putF (putF fr "times" (.int k)) "text" (.str (cZ (u7 bV t s)))) hz1 hs' (qi (ai hl' (df 9 hl)) rfl)) λdc e2 g2 i2=>?_;have a1:=λfr=>dQ (o:=.list []) rfl z fr dc;have q1:=eq_nil (os:=dc++ [.list []]) (bI g2) cL (El λx hx=>hs' x (bL.mp hx).1);have hi:Hi os.length os (dc++ [.list []]):=(i1.trans ⟨i2.len,λj hj=>i2.keep j (ag hj i1.len)⟩).trans (Hi.grow (ai i1.len i2.len) _);by_cases q:(u7 bV t s).filter (λc=>decide (c∈bV))= []
 ·rw [decide_eq_true q] at q1;simp only [if_pos q];have a2:=λfr=>dQ (o:=.tuple [.int k,.str (cZ (u7 bV t s))]) rfl z fr (dc++ [.list []]);refine ⟨putF (putF fr "times" (.int k)) "text" (.str (cZ (u7 bV t s))),dc++ [.list []]++ [.tuple [.int k,.str (cZ (u7 bV t s))]],(dc++ [cA []]).length,?_,hi.trans (Hi.grow hi.len _),λ_=>cL,av (by decide) (av (by decide) hf),aE⟩;(delta fN;with_reducible repeat' (first|apply YD|apply s1|apply e1|apply m1|apply j1|apply s2|apply e2|apply a1|(apply kH;exact q1)|apply a2|exact dR _ _ _|exact br|apply bt|apply bq|apply bG|apply bO|exact aE|apply av (by decide)|exact bb|apply bh (by decide)|exact aI|apply aO|exact bA|(apply b8;apply bX)|(apply bW;focus rfl)|rfl))
 ·rw [decide_eq_false q] at q1;simp only [if_neg q];refine ⟨putF (putF fr "times" (.int k)) "text" (.str (cZ (u7 bV t s))),dc++ [.list []],0,?_,hi,λq'=>absurd q' q,av (by decide) (av (by decide) hf),aE⟩;(delta fN;with_reducible repeat' (first|apply YD|apply s1|apply e1|apply m1|apply j1|apply s2|apply e2|apply a1|(apply kH;exact q1)|(apply ite_no;focus exact bj)|exact dR _ _ _|exact br|apply bt|apply bq|apply bG|apply bO|exact aE|apply av (by decide)|exact bb|apply bh (by decide)|exact aI|apply aO|exact bA|(apply b8;apply bX)|(apply bW;focus rfl)|rfl))
theorem Lc(h:Tx t)(hx:x∈bV)(hz:∀j∈z,j<os.length)(oR:os[tx]? =af (.list (BB t))):∀(n k:Nat),k+n=4->∀(fr:eB) (c9:List O),Hi os.length os c9->getF fr "texts" =af (.ref tx)->getF fr "text" =af (.str (cZ (ub bV t k x)))->(∀y∈ub bV t k x,Sg y)->(ub bV t k x).length<=9^k->
  ∃et os' r,fU (λv=>fN (cx P aj cQ ao) v) ((cb k n).map λ(i:Nat)=>bD i) z ⟨fr,c9⟩=af (if (jP bV t x n k).1<4 then Fl.ret (.ref r) else .next,⟨et,os'⟩)/\Hi os.length os os'/\
   ((jP bV t x n k).1<4->os'[r]? =af (.tuple [.int (jP bV t x n k).1,.str (cZ (jP bV t x n k).2)])):=by
 intro n;induction n with
 |zero=>
  intro k hk fr c9 hi _ _ _ _;exact ⟨fr,c9,0,rfl,hi,λq=>absurd q (by show¬(4<4);decide)⟩
 |succ n ih=>
  intro k hk fr c9 hi hf YD hsg hln;have hz1:∀j∈z,j<c9.length:=λj hj=>ag (hz j hj) hi.len;have OQ:=(hi.keep tx (aY oR)).trans oR;have hb:9^k<=9^4:=Nat.pow_le_pow_right (by decide) (cM hk);refine jV (N8 (P:=P) (aj:=aj) (cQ:=cQ) (k:=k) h OQ hz1 hf hsg (qi (ai hln hb) rfl) YD) λkN dc r e h2 g f1 f2=>?_;rw [Ee hx] at e g f2;have hi2:Hi os.length os dc:=hi.trans ⟨h2.len,λj hj=>h2.keep j (ag hj hi.len)⟩;have Z5:∀y∈ub bV t (k+1) x,Sg y:=by rw [←Ee hx];exact H4 h hsg
  have Z6:(ub bV t (k+1) x).length<=9^(k+1):=by
   rw [←Ee hx];have:=Ek h (ub bV t k x);rw [Nat.pow_succ];exact ai this (ai (df 9 hln) (ar (Nat.mul_comm _ _)))
  have ev:=NO (na:=bV) (t:=t) (k+1) x hx;have eo:jP bV t x (n+1) k=if u6 bV t (k+1) x=ao then (k,ub bV t (k+1) x) else jP bV t x n (k+1):=rfl
  rw [eo,ku,bx];by_cases q:u6 bV t (k+1) x=ao
  ·simp only [if_pos q];rw [if_pos (ev.mpr q)] at e;refine ⟨kN,dc,r,?_,hi2,λ_=>g (ev.mpr q)⟩;rw [if_pos (show k<4 from Vk hk)];exact Jo (turn:=λv=>fN (cx P aj cQ ao) v) e
  ·simp only [if_neg q];rw [if_neg λq'=>q (ev.mp q')] at e;refine jo (ih (k+1) ((aN _ _ _).trans hk) kN dc hi2 f1 f2 Z5 Z6) λLp iI r3 e3 h3 g3=>?_;exact ⟨Lp,iI,r3,(ij (turn:=λv=>fN (cx P aj cQ ao) v) e).trans e3,h3,g3⟩
theorem H5(h:Tx t)(hx:x∈bV)(hz:∀j∈z,j<os.length)(oR:os[tx]? =af (.list (BB t))):
  ∃os' r,cN P aj (n+1) (.top 239) [.ref tx,.str x] os z=af (.ret (.ref r),os')/\Hi os.length os os'/\os'[r]? =af (.tuple [.int (jP bV t x 4 0).1,.str (cZ (jP bV t x 4 0).2)]):=by
 rw [Bb];have r1:=λfr=>wZ (P:=P) (aj:=aj) (cQ:=cN P aj n) (z:=z) (fr:=fr) (os:=os);have hi0:Hi os.length os (os++ [.range 0 4 1]):=Hi.grow (ax _) _;have s1:=λfr=>H3 (P:=P) (aj:=aj) (cQ:=cN P aj n) (z:=z) (fr:=fr) (cL:(os++ [dB 0 4 1])[os.length]? =af (.range 0 4 1));refine jo (Lc (P:=P) (aj:=aj) (cQ:=cN P aj n) (z:=z) h hx hz oR 4 0 rfl [(ah "texts",.ref tx),(ah "name",.str x),(ah "text",.str x)] _ hi0 bb (by
  rw [show cZ (ub bV t 0 x)=x from Al x];exact bh (by decide) (bh (by decide) bb)) (λy hy=>by
  have:y=x:=aL.mp hy;subst this;exact nF hx) (ax _)) λkN dc r e h2 g=>?_
 have e':dk ae (fU (λv=>fN (cy P aj n) v) ((cb 0 4).map λ(i:Nat)=>bD i)) z ⟨[("texts",.ref tx),("name",.str x),("text",.str x)],os++ [.range 0 4 1]⟩=_:=e;by_cases q:(jP bV t x 4 0).1<4
 ·rw [if_pos q] at e';refine ⟨dc,r,gz (fr:=kN) ?_,h2,g q⟩;(delta qZ;with_reducible repeat' (first|apply r1|apply s1|apply e'|apply fe|exact oB|(apply fP (by decide))|exact dR _ _ _|exact br|apply bt|apply bq|apply bG|apply bO|exact aE|apply av (by decide)|exact bb|apply bh (by decide)|exact aI|apply aO|exact bA|(apply b8;apply bX)|(apply bW;focus rfl)|rfl))
 ·rw [if_neg q] at e';have hv:jP bV t x 4 0=(4,[]):=by
   rcases vL (na:=bV) (t:=t) x 4 0 rfl rfl with ⟨j,_,h2,_,_,h5⟩|⟨_,h1⟩
   ·rw [h5] at q;exact absurd h2 q
   ·exact h1
  have a1:=λfr=>dQ (o:=.tuple [.int 4,.str ""]) rfl z fr dc;refine ⟨dc++ [.tuple [.int 4,.str ""]],dc.length,gz (fr:=kN) ?_,h2.trans (Hi.grow h2.len _),by rw [hv,cL,Ej];rfl⟩;(delta qZ;with_reducible repeat' (first|apply r1|apply s1|apply e'|apply a1|apply fe|exact oB|(apply fP (by decide))|exact dR _ _ _|exact br|apply bt|apply bq|apply bG|apply bO|exact aE|apply av (by decide)|exact bb|apply bh (by decide)|exact aI|apply aO|exact bA|(apply b8;apply bX)|(apply bW;focus rfl)|rfl))
def Jz:List (Nat × Str):=[(0,iH 97),(1,iH 98),(2,iH 99),(3,iH 100)]
theorem Em:∀p∈Jz,bV[p.1]? =af p.2:=by
 intro p hp;simp only [Jz,aZ,aV,or_false] at hp;rcases hp with rfl|rfl|rfl|rfl<;>rfl
theorem Hi.Lq{Ew:List O}(a:Hi os.length os os')(b:Hi os'.length os' Ew):Hi os.length os Ew:=a.trans ⟨b.len,λj hj=>b.keep j (ag hj a.len)⟩
theorem Hi.at{o:O}(h:Hi b os os')(hi:i<b)(e:os[i]? =af o):os'[i]? =af o:=(h.keep i hi).trans e
theorem vN(p:Str->Prop)[DecidablePred p](hb:∀uq i src,body uq i src=dk src.fz (fu (turn uq i) src.items))
  (hz:∀j∈z,j<os.length) (hf:∀j,fz=af j->j<os.length) (hl:l.length<=100000)
  (yes:∀z':List Nat,∀a∈l,p a->∀iz c9 dc,(∀(c:Cx) fr,i4 c os.length (.str a) z' ⟨fr,c9⟩=af ((),⟨fr,dc⟩))->∃kN,turn (ups fr) os.length (.str a) z' ⟨iz,c9⟩=af ((),⟨kN,dc⟩))
  (no:∀z':List Nat,∀a∈l,¬p a->∀iz c9,∃kN,turn (ups fr) os.length (.str a) z' ⟨iz,c9⟩=af ((),⟨kN,c9⟩)):
  ∃os',fg ups body ⟨l.map .str,fz⟩ z ⟨fr,os⟩=af (.ref os.length,⟨fr,os'⟩)/\os'[os.length]? =af (.list ((l.filter λa=>decide (p a)).map .str))/\Hi os.length os os':=by
 have hN:(l.flatMap λa=>if p a then [bc a] else []).length<=1000000:=by
  rw [qH,aH];have:=cK (λa=>decide (p a)) l;exact ai (ai this hl) (ak rfl)
 refine cO (iV (fr:=fr) (os:=os) (z:=z) (ups:=ups) (body:=body) (turn:=turn) (fz:=fz) (iv:=bc) (f:=λa=>if p a then [bc a] else []) (l:=l) hb hz hf hN
  (λz' hz' a ha iz c9 xs h1 h2 hN=>by
   have hacc:os.length∉z':=λq=>aX _ (hz' _ q);by_cases q:p a
   ·simp only [if_pos q] at hN ⊢;obtain ⟨kN,e⟩:=yes z' a ha q iz c9 _ λc fr=>g8 (c:=c) h2 hacc hN (.str a) fr;exact ⟨kN,_,e,dA h2,h1.trans (Hi.set (ax _) _)⟩
   ·simp only [if_neg q,bB] at hN ⊢;obtain ⟨kN,e⟩:=no z' a ha q iz c9;exact ⟨kN,c9,e,h2,h1⟩)) λos' e g1 g2=>?_
 exact ⟨os',e,by rw [g1,qH],g2⟩
theorem Uq(hu:getF (ups fr) "live" =af (.str (cZ L)))(hL:∀y∈L,Sg y)(hs:∀y∈l,Sg y)(hz:∀j∈z,j<os.length)(hf:∀j,fz=af j->j<os.length)(hl:l.length<=100000):
  ∃os',fg ups (λuq i src=>wq (cx P aj cQ ao) uq i src) ⟨l.map .str,fz⟩ z ⟨fr,os⟩=af (.ref os.length,⟨fr,os'⟩)/\os'[os.length]? =af (.list ((l.filter λa=>decide (a∈L)).map .str))/\Hi os.length os os':=
 vN (turn:=λuq i v=>nc (cx P aj cQ ao) uq i v) (λa=>a∈L) (λ_ _ _=>rfl) hz hf hl (λz' a ha q iz c9 dc p1=>by
  have c1:=λ(c:Cx) (s:eP)=>qF (c:=c) (z:=z') (s:=s) (hs a ha) hL;rw [decide_eq_true q] at c1;have l2:=λs=>iL (z:=z') (s:=s) hu;exact ⟨putF iz "user" (.str a),by (delta nc;with_reducible repeat' (first|apply c1|apply l2|apply p1|exact dR _ _ _|exact br|apply bt|apply bq|apply bG|apply bO|exact aE|apply av (by decide)|exact bb|apply bh (by decide)|exact aI|apply aO|exact bA|(apply b8;apply bX)|(apply bW;focus rfl)|rfl))⟩) (λz' a ha q iz c9=>by
  have c1:=λ(c:Cx) (s:eP)=>qF (c:=c) (z:=z') (s:=s) (hs a ha) hL;rw [decide_eq_false q] at c1;have l2:=λs=>iL (z:=z') (s:=s) hu;exact ⟨putF iz "user" (.str a),by (delta nc;with_reducible repeat' (first|apply c1|apply l2|(apply ite_no;focus exact bj)|exact dR _ _ _|exact br|apply bt|apply bq|apply bG|apply bO|exact aE|apply av (by decide)|exact bb|apply bh (by decide)|exact aI|apply aO|exact bA|(apply b8;apply bX)|(apply bW;focus rfl)|rfl))⟩)
theorem QS(hu:getF (ups fr) "live" =af (.str (cZ L)))(hL:∀y∈L,Sg y)(hs:∀y∈l,Sg y)(hz:∀j∈z,j<os.length)(hf:∀j,fz=af j->j<os.length)(hl:l.length<=100000):
  ∃os',fg ups (λuq i src=>uQ (cx P aj cQ ao) uq i src) ⟨l.map .str,fz⟩ z ⟨fr,os⟩=af (.ref os.length,⟨fr,os'⟩)/\os'[os.length]? =af (.list ((l.filter λa=>decide (a∈L)).map .str))/\Hi os.length os os':=
 vN (turn:=λuq i v=>lO (cx P aj cQ ao) uq i v) (λa=>a∈L) (λ_ _ _=>rfl) hz hf hl (λz' a ha q iz c9 dc p1=>by
  have c1:=λ(c:Cx) (s:eP)=>qF (c:=c) (z:=z') (s:=s) (hs a ha) hL;rw [decide_eq_true q] at c1;have l2:=λs=>iL (z:=z') (s:=s) hu;exact ⟨putF iz "user" (.str a),by (delta lO;with_reducible repeat' (first|apply c1|apply l2|apply p1|exact dR _ _ _|exact br|apply bt|apply bq|apply bG|apply bO|exact aE|apply av (by decide)|exact bb|apply bh (by decide)|exact aI|apply aO|exact bA|(apply b8;apply bX)|(apply bW;focus rfl)|rfl))⟩) (λz' a ha q iz c9=>by
  have c1:=λ(c:Cx) (s:eP)=>qF (c:=c) (z:=z') (s:=s) (hs a ha) hL;rw [decide_eq_false q] at c1;have l2:=λs=>iL (z:=z') (s:=s) hu;exact ⟨putF iz "user" (.str a),by (delta lO;with_reducible repeat' (first|apply c1|apply l2|(apply ite_no;focus exact bj)|exact dR _ _ _|exact br|apply bt|apply bq|apply bG|apply bO|exact aE|apply av (by decide)|exact bb|apply bh (by decide)|exact aI|apply aO|exact bA|(apply b8;apply bX)|(apply bW;focus rfl)|rfl))⟩)
theorem QT(hu:getF (ups fr) "live" =af (.str (cZ L)))(hL:∀y∈L,Sg y)(hs:∀y∈l,Sg y)(hz:∀j∈z,j<os.length)(hf:∀j,fz=af j->j<os.length)(hl:l.length<=100000):
  ∃os',fg ups (λuq i src=>uP (cx P aj cQ ao) uq i src) ⟨l.map .str,fz⟩ z ⟨fr,os⟩=af (.ref os.length,⟨fr,os'⟩)/\os'[os.length]? =af (.list ((l.filter λa=>decide (a∈L)).map .str))/\Hi os.length os os':=
 vN (turn:=λuq i v=>ng (cx P aj cQ ao) uq i v) (λa=>a∈L) (λ_ _ _=>rfl) hz hf hl (λz' a ha q iz c9 dc p1=>by
  have c1:=λ(c:Cx) (s:eP)=>qF (c:=c) (z:=z') (s:=s) (hs a ha) hL;rw [decide_eq_true q] at c1;have l2:=λs=>iL (z:=z') (s:=s) hu;exact ⟨putF iz "sign" (.str a),by (delta ng;with_reducible repeat' (first|apply c1|apply l2|apply p1|exact dR _ _ _|exact br|apply bt|apply bq|apply bG|apply bO|exact aE|apply av (by decide)|exact bb|apply bh (by decide)|exact aI|apply aO|exact bA|(apply b8;apply bX)|(apply bW;focus rfl)|rfl))⟩) (λz' a ha q iz c9=>by
  have c1:=λ(c:Cx) (s:eP)=>qF (c:=c) (z:=z') (s:=s) (hs a ha) hL;rw [decide_eq_false q] at c1;have l2:=λs=>iL (z:=z') (s:=s) hu;exact ⟨putF iz "sign" (.str a),by (delta ng;with_reducible repeat' (first|apply c1|apply l2|(apply ite_no;focus exact bj)|exact dR _ _ _|exact br|apply bt|apply bq|apply bG|apply bO|exact aE|apply av (by decide)|exact bb|apply bh (by decide)|exact aI|apply aO|exact bA|(apply b8;apply bX)|(apply bW;focus rfl)|rfl))⟩)
theorem Ur(h:Tx t)(hx:Sg x)(oR:os[tx]? =af (.list (BB t)))(hz:∀j∈z,j<os.length)(hn:getF fr "name" =af (.str x))(hf:getF fr "texts" =af (.ref tx)):
  ∃os',fg (λfr=>fh [(ah "name",getF fr "name"),(ah "texts",getF fr "texts")]) (λuq i src=>q6 (cx P aj cQ ao) uq i src) ⟨(cb 0 4).map λ(i:Nat)=>bD i,ae⟩ z ⟨fr,os⟩=af (.ref os.length,⟨fr,os'⟩)/\os'[os.length]? =af (.list ((xq bV t x).map .str))/\Hi os.length os os':=by
 have hlen:(Jz.flatMap λp=>if x∈t p.2 then [bc p.2] else []).length<=1000000:=by
  have h1:∀p:Nat × Str,(if x∈t p.2 then [bc p.2] else []).length<=1:=λp=>by split<;>simp
  have h2:∀l:List (Nat × Str),(l.flatMap λp=>if x∈t p.2 then [bc p.2] else []).length<=l.length:=by
   intro l;induction l with
   |nil=>exact ax _
   |cons a l ih=>rw [bz,aq,aU];have:=h1 a;exact Yl this ih
  exact ai (h2 Jz) (by decide)
 refine cO (iV (fr:=fr) (os:=os) (z:=z) (ups:=λfr=>fh [(ah "name",getF fr "name"),(ah "texts",getF fr "texts")]) (body:=λuq i src=>q6 (cx P aj cQ ao) uq i src) (turn:=λuq i v=>m9 (cx P aj cQ ao) uq i v) (fz:=none) (iv:=λp:Nat × Str=>bD p.1) (f:=λp=>if x∈t p.2 then [bc p.2] else []) (l:=Jz) (λ_ _ _=>rfl) hz (λ_ h=>by injection h) hlen
  (λz' hz' a ha iz c9 xs h1 h2 hN=>by
   have hat:=Em a ha;have hmem:a.2∈bV:=bN hat;have ht1:=h1.at (aY oR) oR;have hacc:os.length∉z':=λq=>aX _ (hz' _ q);have u1:getF (fh [(ah "name",getF fr "name"),(ah "texts",getF fr "texts")]) "name" =af (.str x):=by rw [hn,hf];exact bb
   have u2:getF (fh [(ah "name",getF fr "name"),(ah "texts",getF fr "texts")]) "texts" =af (.ref tx):=by rw [hn,hf];exact bh (by decide) bb
   have l1:=λs=>iL (z:=z') (s:=s) u1;have l2:=λs=>iL (z:=z') (s:=s) u2;have i1:=λ(c:Cx) fr=>yb (c:=c) (z:=z') (fr:=fr) (.inl ht1) (Ga (t:=t) hat) BC;have i2:=λ(c:Cx) (s:eP)=>QQ (c:=c) (z:=z') (s:=s) hat;have c1:=λ(c:Cx) (s:eP)=>qF (c:=c) (z:=z') (s:=s) hx (h.sg a.2 hmem);by_cases q:x∈t a.2
   ·rw [decide_eq_true q] at c1;simp only [if_pos q] at hN ⊢;have p1:=λ(c:Cx) fr=>g8 (c:=c) h2 hacc hN (.str a.2) fr;refine ⟨putF iz "i" (.int a.1),c9.set os.length (.list (xs++ [.str a.2])),?_,dA h2,h1.trans (Hi.set (ax _) _)⟩;(delta m9;with_reducible repeat' (first|apply l1|apply l2|apply i1|apply c1|apply i2|apply p1|exact dR _ _ _|exact br|apply bt|apply bq|apply bG|apply bO|exact aE|apply av (by decide)|exact bb|apply bh (by decide)|exact aI|apply aO|exact bA|(apply b8;apply bX)|(apply bW;focus rfl)|rfl))
   ·rw [decide_eq_false q] at c1;simp only [if_neg q,bB] at hN ⊢;refine ⟨putF iz "i" (.int a.1),c9,?_,h2,h1⟩;(delta m9;with_reducible repeat' (first|apply l1|apply l2|apply i1|apply c1|(apply ite_no;focus exact bj)|exact dR _ _ _|exact br|apply bt|apply bq|apply bG|apply bO|exact aE|apply av (by decide)|exact bb|apply bh (by decide)|exact aI|apply aO|exact bA|(apply b8;apply bX)|(apply bW;focus rfl)|rfl)))) λos' e g1 g2=>?_
 refine ⟨os',e,g1.trans ?_,g2⟩;congr 2;have:=qH (λi=>x∈t i) bc bV;unfold xq;rw [←this];rfl
def QU(t:Str->List Str)(os:List O)(es:List (Str × V))(l:List Str):Prop:=∀x∈l,∃r,lookE es x=af (.ref r)/\os[r]? =af (.list ((xq bV t x).map .str))
theorem JA(es:List (Str × V))(k:Str)(v:V):(jY es k v).length<=es.length+1:=by
 unfold jY;split
 ·rw [aH];exact aF _ _
 ·rw [aq];exact ax _
theorem Us(h:Tx t){us:Nat}(hb:b<=us)(oR:tx<b):∀(l m:List Str) (fr:eB) (os:List O) (es:List (Str × V)),(∀x∈l,x∈bV)->(∀j∈z,j<b)->os[tx]? =af (.list (BB t))->os[us]? =af (.dict es)->QU t os es m->es.length+l.length<=1000->getF fr "texts" =af (.ref tx)->getF fr "users" =af (.ref us)->
  ∃et os' es',fU (λv=>jD (cx P aj cQ ao) v) (l.map .str) z ⟨fr,os⟩=af (.next,⟨et,os'⟩)/\Hi b os os'/\os'[us]? =af (.dict es')/\QU t os' es' (m++l)/\getF et "texts" =af (.ref tx)/\getF et "users" =af (.ref us):=by
 intro l;induction l with
 |nil=>exact λm fr os es _ _ _ h1 h2 _ h3 h4=>⟨fr,os,es,rfl,.refl,h1,by rw [bB];exact h2,h3,h4⟩
 |cons x l ih=>
  intro m fr os es hl hz OR Ex hm hlen hf1 hf2;rw [aU] at hlen;have hxn:=hl x (fm ..);have Va:=aY Ex;have hz0:∀j∈z,j<os.length:=λj hj=>aD (ag (hz j hj) hb) Va;have hi0:Hi os.length os (os++ [.range 0 4 1]):=Hi.grow (ax _) _;have r1:=λfr=>wZ (P:=P) (aj:=aj) (cQ:=cQ) (z:=z) (fr:=fr) (os:=os);have s1:=λfr=>H3 (P:=P) (aj:=aj) (cQ:=cQ) (z:=z) (fr:=fr) (cL:(os++ [dB 0 4 1])[os.length]? =af (.range 0 4 1));refine cO (Ur (P:=P) (aj:=aj) (cQ:=cQ) (z:=z) (fr:=putF fr "name" (.str x)) h (nF hxn) (bI OR:(os++ [dB 0 4 1])[tx]? =_) (λj hj=>ag (hz0 j hj) hi0.len) aE (av (by decide) hf1)) λc9 e1 g1 i1=>?_;have hi1:=hi0.Lq i1;have X4:=hi1.at Va Ex;have Z7:us∉z:=λq=>aX _ (ag (hz us q) hb);have u1:=λ(c:Cx) fr=>xY (c:=c) (z:=z) (fr:=fr) (k:=x) (v:=.ref (os++ [dB 0 4 1]).length) X4 Z7 (ai (ai (JA es x (.ref (os++ [dB 0 4 1]).length)) (cg (dY hlen) _)) (ak rfl));have st:jD (cx P aj cQ ao) (.str x) z ⟨fr,os⟩=af (.next,⟨putF fr "name" (.str x),c9.set us (.dict (jY es x (.ref (os++ [dB 0 4 1]).length)))⟩):=by
   (delta jD;with_reducible repeat' (first|apply r1|apply s1|apply e1|apply hf2|apply u1|exact dR _ _ _|exact br|apply bt|apply bq|apply bG|apply bO|exact aE|apply av (by decide)|exact bb|apply bh (by decide)|exact aI|apply aO|exact bA|(apply b8;apply bX)|(apply bW;focus rfl)|rfl))
  have OS:Hi b os (c9.set us (.dict (jY es x (.ref (os++ [dB 0 4 1]).length)))):=⟨by rw [dI];exact hi1.len,λj hj=>(bH (eM (ag hj hb))).trans (hi1.keep j (aD (ag hj hb) Va))⟩;have hm':QU t (c9.set us (.dict (jY es x (.ref (os++ [dB 0 4 1]).length)))) (jY es x (.ref (os++ [dB 0 4 1]).length)) (m++ [x]):=λy hy=>by
   rw [AQ];by_cases q:y=x
   ·subst q;rw [if_pos rfl];exact ⟨_,rfl,bC g1 (by rw [aq];simp;exact bP (aD Va (bU _)))⟩
   ·rw [if_neg q];refine aR (hm y ((aG.mp hy).resolve_right λw=>q (aL.mp w))) λr a1 a2=>?_;exact ⟨r,a1,bC (hi1.at (aY a2) a2) λw=>by subst w;rw [Ex] at a2;cases a2⟩
  refine dy (ih (m++ [x]) (putF fr "name" (.str x)) _ _ (λy hy=>hl y (i8 _ hy)) hz (OS.at oR OR) (dA X4) hm' (by have:=JA es x (.ref (os++ [dB 0 4 1]).length);exact ai (cg this _) (VB hlen)) (av (by decide) hf1) (av (by decide) hf2)) λet os' es' e2 a1 a2 a3 a4 a5=>?_;refine ⟨et,os',es',?_,OS.trans a1,a2,?_,a4,a5⟩
  ·rw [bx];exact (ij (turn:=λv=>jD (cx P aj cQ ao) v) st).trans e2
  ·rw [aQ] at a3;exact a3
theorem WH:(!false)=ao:=rfl
theorem Ut:¬(!true)=ao:=by decide
theorem QU.keep(h:QU t os es l)(hi:∀j,j<os.length->os'[j]? =os[j]?):QU t os' es l:=λx hx=>by
 refine aR (h x hx) λr a e=>?_;exact ⟨r,a,(hi r (aY e)).trans e⟩
theorem Oa(h:y∈xq bV t x):Sg y:=nF (bL.mp h).1
theorem H6:(xq bV t x).length<=4:=cK ..
theorem Uu{us:Nat}(hu:getF fr "live" =af (.str (cZ L)))(Ex:getF fr "users" =af (.ref us))(hL:∀y∈L,y∈bV)(hl:L.length<=4)(hd:os[us]? =af (.dict es))(hr:QU t os es bV)(hz:∀j∈z,j<os.length):
  ∃os',fg (λfr=>fh [(ah "live",getF fr "live"),(ah "users",getF fr "users")]) (λuq i src=>q9 (cx P aj cQ ao) uq i src) ⟨L.map .str,ae⟩ z ⟨fr,os⟩=af (.ref os.length,⟨fr,os'⟩)/\
   os'[os.length]? =af (.list ((L.filter λn=>(xq bV t n).any λu=>decide (u∈L)).map .str))/\Hi os.length os os':=by
 have Vb:∀y∈L,Sg y:=λy hy=>nF (hL y hy);have hlen:(L.flatMap λa=>if (xq bV t a).any (λu=>decide (u∈L))=ao then [bc a] else []).length<=1000000:=by
  rw [qH,aH];have:=cK (λa=>decide ((xq bV t a).any (λu=>decide (u∈L))=ao)) L;exact ai (ai this hl) (ak rfl)
 refine cO (iV (fr:=fr) (os:=os) (z:=z) (ups:=λfr=>fh [(ah "live",getF fr "live"),(ah "users",getF fr "users")]) (body:=λuq i src=>q9 (cx P aj cQ ao) uq i src) (turn:=λuq i v=>nf (cx P aj cQ ao) uq i v) (fz:=none) (iv:=bc) (f:=λa=>if (xq bV t a).any (λu=>decide (u∈L))=ao then [bc a] else []) (l:=L) (λ_ _ _=>rfl) hz (λ_ h=>by injection h) hlen
  (λz' hz' a ha iz c9 xs h1 h2 hN=>by
   have hacc:os.length∉z':=λq=>aX _ (hz' _ q);have v1:getF (fh [(ah "live",getF fr "live"),(ah "users",getF fr "users")]) "live" =af (.str (cZ L)):=by rw [hu,Ex];exact bb
   have v2:getF (fh [(ah "live",getF fr "live"),(ah "users",getF fr "users")]) "users" =af (.ref us):=by rw [hu,Ex];exact bh (by decide) bb
   have l2:=λs=>iL (z:=z') (s:=s) v2;obtain ⟨r,a1,a2⟩:=hr a (hL a ha);have i1:=λ(c:Cx) fr=>y5 (c:=c) (z:=z') (fr:=fr) (h1.at (aY hd) hd) a1;have hr1:=h1.at (aY a2) a2;have s1:=λfr=>src_list (P:=P) (aj:=aj) (cQ:=cQ) (z:=z') (fr:=fr) hr1;have Cq:=aY h2;have hz1:∀j∈z',j<c9.length:=λj hj=>aD (hz' j hj) Cq;obtain ⟨dc,e2,b1,b2⟩:=Uq (P:=P) (aj:=aj) (cQ:=cQ) (z:=z') (os:=c9) (fr:=putF iz "name" (.str a)) (L:=L) (l:=xq bV t a) (fz:=af r) (ups:=λ_=>fh [(ah "live",getF (fh [(ah "live",getF fr "live"),(ah "users",getF fr "users")]) "live")]) (by rw [v1];exact bb) Vb (λy=>Oa) hz1 (λj hj=>by injection hj with hj;subst hj;exact aY hr1) (ai (H6 (t:=t) (x:=a)) (ak rfl));have m1:=λfr=>dQ (o:=.list []) rfl z' fr dc;have q1:=eq_nil (os:=dc++ [.list []]) (bI b1) cL (El λx hx=>Oa (bL.mp hx).1);have h3:=b2.at Cq h2;have hi:Hi os.length os (dc++ [cA []]):=(h1.trans ⟨b2.len,λj hj=>b2.keep j (aD hj Cq)⟩).trans (Hi.grow (ai h1.len b2.len) _);by_cases q:(xq bV t a).any (λu=>decide (u∈L))=ao
   ·simp only [if_pos q] at hN ⊢;have q':¬(xq bV t a).filter (λu=>decide (u∈L))= []:=λe=>by
     obtain ⟨u,hu1,ZA⟩:=iX.mp q;have:u∈(xq bV t a).filter (λu=>decide (u∈L)):=bL.mpr ⟨hu1,ZA⟩;rw [e] at this;exact absurd this aV
    rw [decide_eq_false q'] at q1;have p1:=λ(c:Cx) fr=>g8 (c:=c) (bI h3:(dc++ [cA []])[os.length]? =_) hacc hN (.str a) fr;refine ⟨putF iz "name" (.str a),_,?_,dA (bI h3),hi.trans (Hi.set (ax _) _)⟩;(delta nf;with_reducible repeat' (first|apply l2|apply i1|apply s1|apply e2|apply m1|(apply yZ;exact q1)|(apply bW;focus exact WH)|apply p1|exact dR _ _ _|exact br|apply bt|apply bq|apply bG|apply bO|exact aE|apply av (by decide)|exact bb|apply bh (by decide)|exact aI|apply aO|exact bA|(apply b8;apply bX)|(apply bW;focus rfl)|rfl))
   ·simp only [if_neg q,bB] at hN ⊢;have q':(xq bV t a).filter (λu=>decide (u∈L))= []:=jf.mpr λu hu hd=>q (iX.mpr ⟨u,hu,hd⟩);rw [decide_eq_true q'] at q1;refine ⟨putF iz "name" (.str a),_,?_,bI h3,hi⟩;(delta nf;with_reducible repeat' (first|apply l2|apply i1|apply s1|apply e2|apply m1|(apply yZ;exact q1)|(apply ite_no;focus exact Ut)|(apply ite_no;focus exact bj)|exact dR _ _ _|exact br|apply bt|apply bq|apply bG|apply bO|exact aE|apply av (by decide)|exact bb|apply bh (by decide)|exact aI|apply aO|exact bA|(apply b8;apply bX)|(apply bW;focus rfl)|rfl)))) λos' e g1 g2=>?_
 refine ⟨os',e,g1.trans ?_,g2⟩;rw [qH];congr 3;exact jT λa _=>Bool.decide_eq_true
theorem nh:∀y∈cH bV t k,y∈bV:=λy hy=>vJ (eS k) hy
theorem u9:(cH bV t k).length<=4:=by
 induction k with
 |zero=>exact ax _
 |succ k ih=>exact ai (cK ..) ih
theorem QV{us:Nat}(hz:∀j∈z,j<b):∀(n k:Nat) (fr:eB) (os:List O),b<=os.length->os[us]? =af (.dict es)->QU t os es bV->getF fr "live" =af (.str (cZ (cH bV t k)))->getF fr "users" =af (.ref us)->getF fr "texts" =af (.ref tx)->
  ∃et os',fU (λv=>jE (cx P aj cQ ao) v) ((cb k n).map λ(i:Nat)=>bD i) z ⟨fr,os⟩=af (.next,⟨et,os'⟩)/\Hi os.length os os'/\getF et "live" =af (.str (cZ (cH bV t (k+n))))/\getF et "users" =af (.ref us)/\getF et "texts" =af (.ref tx):=by
 intro n;induction n with
 |zero=>exact λk fr os _ _ _ h1 h2 h3=>⟨fr,os,rfl,.refl,h1,h2,h3⟩
 |succ n ih=>
  intro k fr os hb hd hr hf1 hf2 JQ;have hz1:∀j∈z,j<os.length:=λj hj=>ag (hz j hj) hb;have Vb:∀y∈cH bV t k,Sg y:=λy hy=>nF (nh y hy);have Z8:∀y∈cH bV t (k+1),Sg y:=λy hy=>nF (nh y hy);have s1:=λfr=>qG (P:=P) (aj:=aj) (cQ:=cQ) (z:=z) (fr:=fr) (os:=os) Vb;have m1:=λ(c:Cx) fr=>rr (c:=c) (z:=z) (fr:=fr) (os:=os) (x:=ah "") vI;refine cO (Uu (P:=P) (aj:=aj) (cQ:=cQ) (z:=z) (os:=os) (fr:=putF fr "step" (.int k)) (av (by decide) hf1) (av (by decide) hf2) nh u9 hd hr hz1) λc9 e1 g1 i1=>?_;have GF:c9[os.length]? =af (.list ((cH bV t (k+1)).map .str)):=g1;have j1:=λ(c:Cx) fr=>zb (c:=c) (z:=z) (fr:=fr) GF (by rw [rW Z8];have:=u9 (t:=t) (k:=k+1);exact ai this (ak rfl));have st:jE (cx P aj cQ ao) (.int k) z ⟨fr,os⟩=af (.next,⟨putF (putF fr "step" (.int k)) "live" (.str (cZ (cH bV t (k+1)))),c9⟩):=by
   (delta jE;with_reducible repeat' (first|apply hf1|apply s1|apply e1|apply m1|apply j1|exact dR _ _ _|exact br|apply bt|apply bq|apply bG|apply bO|exact aE|apply av (by decide)|exact bb|apply bh (by decide)|exact aI|apply aO|exact bA|(apply b8;apply bX)|(apply bW;focus rfl)|rfl))
  refine dD (ih (k+1) (putF (putF fr "step" (.int k)) "live" (.str (cZ (cH bV t (k+1))))) c9 (ai hb i1.len) (i1.at (aY hd) hd) (hr.keep i1.keep) aE (av (by decide) (av (by decide) hf2)) (av (by decide) (av (by decide) JQ))) λet os' e2 a1 a2 a3 a4=>?_;refine ⟨et,os',?_,i1.Lq a1,by rw [show k+(n+1)=k+1+n from aN _ _ 1];exact a2,a3,a4⟩;rw [ku,bx];exact (ij (turn:=λv=>jE (cx P aj cQ ao) v) st).trans e2
theorem QW(hx:eO x=ao)(hy:eO y=ao):EL os (.str x) (.str y)=af (decide (x=y)):=by
 refine Eq.trans (b:=if (xn x).canLay0=ao/\(xn y).canLay0=ao/\(xn x).depth<=20 then af (mP (.str x) (.str y)) else ae) rfl ?_;refine (if_pos ⟨hx,hy,ak rfl⟩).trans ?_;congr 1
theorem Ob(h:∀x∈l,Sg x):eO (cZ l)=ao:=by
 unfold eO;rw [←zv];refine bK.mpr λc hc=>?_;have:iH c∈lets (cZ l):=aT.mpr ⟨c,hc,rfl⟩;rw [tr h] at this;refine aR (h _ this) λk hk e=>?_;exact decide_eq_true (Jy e▸hk)
theorem QX(h:∀x∈l,Sg x):cZ l=ah "" ↔l= []:=by
 constructor
 ·intro e;have:=tr h;rw [e] at this;exact this.symm
 ·rintro rfl;exact Ej.symm
noncomputable def Ld(t:Str->List Str)(L:List Str)(l:List Str):List Str:=l.flatMap λi=>(i::t i).filter λs=>decide (s∈L)
theorem Oc{ys:List V}(h:os[i]? =af (.list xs))(h':os[j]? =af (.list ys))(hz:i∉z)(hs:xs.length+ys.length<=1000000):ft c "list.extend" (.ref i) [.ref j] z ⟨fr,os⟩=af (.none,⟨fr,os.set i (.list (xs++ys))⟩):=
 Nb.trans ((ba (eC h z fr)).trans ((ba (eC h' z fr)).trans (ba (lQ (o:=.list (xs++ys)) h (decide_eq_true (by rw [aq];exact hs)) hz fr))))
theorem Gb{s:eP}(h:x.cps.size+y.cps.size<=1000000):binC c .Add (.str x) (.str y) z s=af (.str (x++y),s):=Bd (a:=aA (bc (x++y))) (b:=fail) h z s
theorem Od(h:Tx t){nd:Nat}{us:Nat}(hz:∀j∈z,j<b)(hL:∀y∈L,Sg y)(hb:b<=nd)(oR:tx<b):∀(ps:List (Nat × Str)) (m:List Str) (fr:eB) (os:List O),(∀p∈ps,p∈Jz)->os[tx]? =af (.list (BB t))->os[nd]? =af (.list (m.map .str))->m.length+10*ps.length<=1000->getF fr "live" =af (.str (cZ L))->getF fr "texts" =af (.ref tx)->getF fr "named" =af (.ref nd)->getF fr "users" =af (.ref us)->
  ∃et os',fU (λv=>iU (cx P aj cQ ao) v) (ps.map λp=>bD p.1) z ⟨fr,os⟩=af (.next,⟨et,os'⟩)/\Hi nd os os'/\os'[nd]? =af (.list ((m++Ld t L (ps.map (·.2))).map .str))/\getF et "live" =af (.str (cZ L))/\getF et "named" =af (.ref nd)/\getF et "users" =af (.ref us):=by
 intro ps;induction ps with
 |nil=>exact λm fr os _ _ h1 _ h2 _ h4 h5=>⟨fr,os,rfl,.refl,by rw [h1];simp [Ld],h2,h4,h5⟩
 |cons p ps ih=>
  intro m fr os hp OR hnd hlen hf1 hf2 JQ Z9;rw [aU] at hlen;have hat:=Em p (hp p (fm ..));have hmem:p.2∈bV:=bN hat;have lnd:=aY hnd;have hz1:∀j∈z,j<os.length:=λj hj=>aD (ag (hz j hj) hb) lnd;have ndz:nd∉z:=λq=>aX _ (ag (hz nd q) hb);have sgl:∀y∈p.2::t p.2,Sg y:=λy hy=>by
   rcases jJ hy with rfl|hy
   ·exact nF hmem
   ·exact h.sg _ hmem y hy
  have YE:=h.len p.2 hmem;have i1:=λ(c:Cx) fr=>yb (c:=c) (z:=z) (fr:=fr) (.inl OR) (Ga (t:=t) hat) BC;have i2:=λ(c:Cx) (s:eP)=>QQ (c:=c) (z:=z) (s:=s) hat;have ad:∀(c:Cx) (s:eP),binC c .Add (.str p.2) (.str (cZ (t p.2))) z s=af (.str (cZ (p.2::t p.2)),s):=λc s=>Gb (by
   rw [rW (h.sg p.2 hmem)];have:p.2.cps.size=1:=by
    refine aR (nF hmem) λk _ e=>?_;rw [e];rfl
   exact qi (dW (ar this) YE) rfl)
  have s1:=λfr=>qG (P:=P) (aj:=aj) (cQ:=cQ) (z:=z) (fr:=fr) (os:=os) sgl;refine cO (QT (P:=P) (aj:=aj) (cQ:=cQ) (z:=z) (os:=os) (fr:=putF fr "i" (.int p.1)) (L:=L) (l:=p.2::t p.2) (fz:=none) (ups:=λfr=>fh [(ah "live",getF fr "live")]) (by rw [av (by decide) hf1];exact bb) hL sgl hz1 (λ_ h=>by injection h) (by rw [aU];exact aW YE (ak rfl))) λc9 e1 g1 k1=>?_;have m1:=λ(c:Cx) fr=>k9 (c:=c) (z:=z) (fr:=fr) hnd KW;have X5:=k1.at lnd hnd;have hfl:=cK (λs=>decide (s∈L)) (p.2::t p.2);rw [aU] at hfl;have x1:=λ(c:Cx) fr=>Oc (c:=c) (z:=z) (fr:=fr) X5 g1 ndz (by rw [aH,aH];exact qi (dW (ai (aF _ _) hlen) (ai hfl (iZ YE))) rfl);have st:iU (cx P aj cQ ao) (.int p.1) z ⟨fr,os⟩=af (.next,⟨putF fr "i" (.int p.1),c9.set nd (.list (m.map .str++((p.2::t p.2).filter λs=>decide (s∈L)).map .str))⟩):=by
   (delta iU;with_reducible repeat' (first|apply hf1|apply hf2|apply JQ|apply i2|apply i1|apply ad|apply s1|apply e1|apply m1|apply x1|exact dR _ _ _|exact br|apply bt|apply bq|apply bG|apply bO|exact aE|apply av (by decide)|exact bb|apply bh (by decide)|exact aI|apply aO|exact bA|(apply b8;apply bX)|(apply bW;focus rfl)|rfl))
  rw [←cw] at st;have OS:Hi nd os (c9.set nd (.list ((m++(p.2::t p.2).filter λs=>decide (s∈L)).map .str))):=⟨by rw [dI];exact k1.len,λj hj=>(bH (eM hj)).trans (k1.keep j (aD hj lnd))⟩;refine iB (ih (m++(p.2::t p.2).filter λs=>decide (s∈L)) (putF fr "i" (.int p.1)) _ (λq hq=>hp q (i8 _ hq)) (OS.at (ag oR hb) OR) (dA X5) (by rw [aq];exact ai (ai (cg (bE (ai hfl (iZ YE)) _) _) (ar (aN _ _ _))) hlen) (av (by decide) hf1) (av (by decide) hf2) (av (by decide) JQ) (av (by decide) Z9)) λet os' e2 a1 a2 a3 a4 a5=>?_;refine ⟨et,os',?_,OS.trans a1,?_,a3,a4,a5⟩
  ·rw [bx];exact (ij (turn:=λv=>iU (cx P aj cQ ao) v) st).trans e2
  ·rw [a2,aQ];rfl
theorem QY(xs:List V)(v:V):sS (xs++ [v]) .none (.int (-1)) .none=af xs:=by
 refine (x6 rfl rfl).trans ?_;show af (((xs++ [v]).drop 0).take (kJ (xs++ [v]).length (-1)-0))=_;have e:kJ (xs++ [v]).length (-1)=xs.length:=by
  unfold kJ;rw [aq,fT];simp;exact by rw [m1q,z5 (tH (Int.lt_succ _)),sF (d0 _)];rfl
 rw [e,pQ,Nat.sub_zero,List.take_left]
theorem Le{xs:List Str}{k:Str}(h:os[i]? =af (.list (xs.map .str))):cmpC c .NotIn (.str k) (.ref i) z ⟨fr,os⟩=af (.bool (!decide (k∈xs)),⟨fr,os⟩):=by
 refine (ba (eC h z fr)).trans ((Bd (by rw [Eh];rfl) z _).trans ?_);rw [Eg];rfl
theorem QZ{w:Nat}{p:List Str}(hw:getF fr "way" =af (.ref w))(h:os[w]? =af (.list (p.map .str++ [.str y])))(hp:p.length<=1000):
  j6 (cx P aj cQ ao) z ⟨fr,os⟩=af (!decide (y∈p),⟨fr,os++ [.list (p.map .str)]⟩):=by
 have i1:=λ(c:Cx) fr=>Bl (c:=c) (z:=z) (fr:=fr) h;have s1:=λ(c:Cx) fr=>rS (c:=c) (z:=z) (fr:=fr) (o:=.ref w) (λfr=>eC h z fr) (QY (p.map .str) (.str y)) (by rw [aH];exact ai hp (ak rfl));have c1:=λ(c:Cx) fr=>Le (c:=c) (z:=z) (fr:=fr) (k:=y) (cL:(os++ [cA (p.map .str)])[os.length]? =_);(delta j6;with_reducible repeat' (first|apply hw|exact Bh|apply i1|apply s1|apply c1|exact dR _ _ _|exact br|apply bt|apply bq|apply bG|apply bO|exact aE|apply av (by decide)|exact bb|apply bh (by decide)|exact aI|apply aO|exact bA|(apply b8;apply bX)|(apply bW;focus rfl)|rfl))
theorem Q0{w us:Nat}{p:List Str}(hz:∀j∈z,j<w)(hw:getF fr "way" =af (.ref w))(Ex:getF fr "users" =af (.ref us))(hlv:getF fr "live" =af (.str (cZ L)))(h:os[w]? =af (.list (p.map .str++ [.str y])))(hp:p.length<=1000)
  (hL:∀x∈L,x∈bV) (hy:y∈bV) (hd:os[us]? =af (.dict es)) (hr:QU t os es bV) (Vc:us≠w) (hne:∃u,((xq bV t y).filter λu=>decide (u∈L)).head?=af u):
  ∃os',lP (cx P aj cQ ao) z ⟨fr,os⟩=af (.next,⟨fr,os'⟩)/\Hi w os os'/\os'[w]? =af (.list ((p++ [y]).map .str++ [.str (((xq bV t y).filter λu=>decide (u∈L)).headD y)]))/\(∀j,j≠w->j<os.length->os'[j]? =os[j]?):=by
 obtain ⟨u,hu⟩:=hne;have lw:=aY h;have hz1:∀j∈z,j<os.length:=λj hj=>aD (hz j hj) lw;have wz:w∉z:=λq=>aX _ (hz w q);refine aR (hr y hy) λr a1 a2=>?_;have m1:=λ(c:Cx) fr=>k9 (c:=c) (z:=z) (fr:=fr) h mJ;have i1:=λ(c:Cx) fr=>Bl (c:=c) (z:=z) (fr:=fr) h;have i2:=λ(c:Cx) fr=>y5 (c:=c) (z:=z) (fr:=fr) hd a1;have s1:=λfr=>src_list (P:=P) (aj:=aj) (cQ:=cQ) (z:=z) (fr:=fr) a2;refine cO (QS (P:=P) (aj:=aj) (cQ:=cQ) (z:=z) (os:=os) (fr:=fr) (L:=L) (l:=xq bV t y) (fz:=af r) (ups:=λfr=>fh [(ah "live",getF fr "live")]) (by rw [hlv];exact bb) (λx hx=>nF (hL x hx)) (λx=>Oa) hz1 (λj hj=>by injection hj with hj;subst hj;exact aY a2) (ai (H6 (t:=t) (x:=y)) (ak rfl))) λc9 e1 g1 k1=>?_;have BI:((xq bV t y).filter λu=>decide (u∈L)).headD y=u:=by
  rw [List.headD_eq_head?_getD,hu];rfl
 have hat:((((xq bV t y).filter λu=>decide (u∈L)).map bc))[0]? =af (.str u):=by
  rw [ei,←tO,hu];rfl
 have i3:∀(c:Cx) fr,d8 c (.ref os.length) (.int 0) z ⟨fr,c9⟩=af (.str u,⟨fr,c9⟩):=λc fr=>yb (c:=c) (z:=z) (fr:=fr) (k:=0) (.inl g1) hat (by
  rw [aH];exact qi (ai (cK _ _) (H6 (t:=t) (x:=y))) rfl)
 have hw1:=k1.at lw h;have p1:=λ(c:Cx) fr=>pG (c:=c) (z:=z) (fr:=fr) (v:=.str u) hw1 wz (by rw [aq,aH,fT];exact aW (cg hp _) (ak rfl));refine ⟨c9.set w (.list (p.map .str++ [.str y]++ [.str u])),?_,⟨by rw [dI];exact k1.len,λj hj=>(bH (eM hj)).trans (k1.keep j (aD hj lw))⟩,?_,λj hj hl=>(bH λq=>hj q.symm).trans (k1.keep j hl)⟩
 ·(delta lP;with_reducible repeat' (first|apply hw|apply Ex|exact Bh|apply m1|apply i1|apply i2|apply s1|apply e1|apply i3|apply p1|exact dR _ _ _|exact br|apply bt|apply bq|apply bG|apply bO|exact aE|apply av (by decide)|exact bb|apply bh (by decide)|exact aI|apply aO|exact bA|(apply b8;apply bX)|(apply bW;focus rfl)|rfl))
 ·rw [dA hw1,BI,cw];rfl
theorem Q1(h:∃u∈xq bV t y,u∈L):∃u,((xq bV t y).filter λu=>decide (u∈L)).head?=af u:=by
 refine aR h λu h1 h2=>?_;have:u∈(xq bV t y).filter λu=>decide (u∈L):=bL.mpr ⟨h1,decide_eq_true h2⟩;cases q:(xq bV t y).filter λu=>decide (u∈L) with
 |nil=>rw [q] at this;exact absurd this aV
 |cons a l=>exact ⟨a,rfl⟩
theorem Uv{w us:Nat}(hz:∀j∈z,j<w)(Vc:us<w):∀(m:Nat) (p:List Str) (y:Str) (os:List O) (N:Nat),y∈cH bV t 4->p.Nodup->(∀x∈p,x∈cH bV t 4)->(cH bV t 4).length<p.length+m->m<=N->
  getF fr "way" =af (.ref w)->getF fr "users" =af (.ref us)->getF fr "live" =af (.str (cZ (cH bV t 4)))->os[w]? =af (.list (p.map .str++ [.str y]))->os[us]? =af (.dict es)->(∀x∈bV,∃r,r<w/\lookE es x=af (.ref r)/\os[r]? =af (.list ((xq bV t x).map .str)))->
  ∃os' p' y',hU (j6 (cx P aj cQ ao)) (lP (cx P aj cQ ao)) (aA bp) N z ⟨fr,os⟩=af (.next,⟨fr,os'⟩)/\Hi w os os'/\os'[w]? =af (.list (p'.map .str++ [.str y']))/\y'∈p'/\p'.length<=5/\pJ p' y'=qE (O3 bV t 4) m p y:=by
 intro m;induction m with
 |zero=>
  intro p y os N hy hnd hp hl;have:=jt hnd hp;exact absurd hl (cD.mpr this)
 |succ m ih=>
  intro p y os N hy hnd hp hl hN hf1 hf2 JQ hw hd' hr;obtain ⟨N,rfl⟩:∃k,N=k+1:=⟨N-1,(gh (sI hN)).symm⟩;have hpl:p.length<=4:=ai (jt hnd hp) u9;have t1:=QZ (P:=P) (aj:=aj) (cQ:=cQ) (z:=z) hf1 hw (ai hpl (ak rfl));have er:qE (O3 bV t 4) (m+1) p y=if y∈p then pJ p y else qE (O3 bV t 4) m (p++ [y]) (O3 bV t 4 y):=rfl
  refine er▸ ?_;by_cases q:y∈p
  ·rw [decide_eq_true q] at t1;refine (if_pos q)▸ ?_;exact ⟨os++ [.list (p.map .str)],p,y,HP (test:=j6 (cx P aj cQ ao)) t1 (orelse:=aA bp) rfl rfl,Hi.grow (bS (aY hw)) _,bI hw,q,ai hpl (ak rfl),rfl⟩
  ·rw [decide_eq_false q] at t1;refine (if_neg q)▸ ?_;have hlive:=(x9.mp ((C0 (na:=bV) (t:=t) (n:=4) (ax _))▸hy:y∈cH bV t (4+1))).2;have XZ:O3 bV t 4 y∈cH bV t 4:=by
    refine ck (Ju (na:=bV) (t:=t) (n:=4) (ax _) y hy) λ_ _ _ _ h3=>?_;exact h3
   refine Dc (Q0 (P:=P) (aj:=aj) (cQ:=cQ) (z:=z) (os:=os++ [.list (p.map .str)]) (t:=t) (es:=es) hz hf1 hf2 JQ (bI hw) (ai hpl (ak rfl)) nh (nh y hy) (bI hd') (λx hx=>by
    obtain ⟨r,_,a,b⟩:=hr x hx;exact ⟨r,a,bI b⟩) (bP Vc) (Q1 hlive)) λc9 e1 k1 g1 k2=>?_
   have hk:Hi w os c9:=(Hi.grow (bS (aY hw)) _).trans k1;refine dy (ih (p++ [y]) (O3 bV t 4 y) c9 N XZ (bo.mpr ⟨hnd,bu.mpr ⟨aV,dz⟩,λa ha b hb e=>q (by rw [aL] at hb;rw [←hb,←e];exact ha)⟩) (λx hx=>by
    rcases aG.mp hx with hx|hx
    ·exact hp x hx
    ·rw [aL] at hx;subst hx;exact hy) (by rw [aq,fT];omega) (fc hN) hf1 hf2 JQ g1 (hk.at Vc hd') (λx hx=>by
    obtain ⟨r,a0,a,b⟩:=hr x hx;exact ⟨r,a0,a,hk.at a0 b⟩)) λos' p' y' e2 a1 a2 a3 a4 a5=>?_
   exact ⟨os',p',y',(x4 t1 e1).trans e2,hk.trans a1,a2,a3,a4,a5⟩
def nV(t:Str->List Str):Option (List Str):=((Ld t (cH bV t 4) bV).head?).map (qE (O3 bV t 4) ((cH bV t 4).length+1) [])
theorem En(h:y∈Ld t L bV):y∈L:=by
 refine aR (cJ.mp h) λi _ hy=>?_;exact iK (bL.mp hy).2
theorem WI(hL:∀x∈L,x∈bV)(h:y∈L):y∈Ld t L bV:=cJ.mpr ⟨y,hL y h,bL.mpr ⟨fm ..,decide_eq_true h⟩⟩
theorem Uw(h:Tx t):(Ld t L bV).length<=40:=by
 have:∀l:List Str,(∀x∈l,x∈bV)->(Ld t L l).length<=10*l.length:=by
  intro l;induction l with
  |nil=>exact λ_=>ax _
  |cons a l ih=>
   intro hl;have h1:=cK (λs=>decide (s∈L)) (a::t a);have h2:=h.len a (hl a (fm ..));have h3:=ih λx hx=>hl x (i8 _ hx);rw [aU] at h1;show (((a::t a).filter λs=>decide (s∈L))++Ld t L l).length<=_;rw [aq,aU];exact VC (ai h1 (iZ h2)) h3
 exact this bV λ_ h=>h
theorem Q2{w:Nat}{p:List Str}(hw:getF fr "way" =af (.ref w))(h:os[w]? =af (.list (p.map .str++ [.str y])))(hp:p.length<=1000)(hy:y∈p):
  pA (cx P aj cQ ao) z ⟨fr,os⟩=af (.ret (.ref os.length),⟨fr,os++ [.list ((pJ p y).map .str)]⟩):=by
 have h':os[w]? =af (.list ((p++ [y]).map .str)):=by rw [h,cw];rfl
 refine cO (F7 (r:=[y]) 0 hy) λj h1 h2 h3=>?_;have i1:=λ(c:Cx) fr=>Bl (c:=c) (z:=z) (fr:=fr) h;have m1:=λ(c:Cx) fr=>k9 (c:=c) (z:=z) (fr:=fr) h M8;have x1:=λ(c:Cx) fr=>QP (c:=c) (z:=z) (fr:=fr) h' h1;have e:((p++ [y]).map bc).drop (0+j)=(pJ p y).map .str:=by
  rw [fH,←nq,i7 (bS h2),h3];rfl
 have s1:=λ(c:Cx) fr=>rS (c:=c) (z:=z) (fr:=fr) (o:=.ref w) (λfr=>eC h' z fr) ((D8 ((p++ [y]).map bc) (0+j)).trans (congrArg af e)) (by
  unfold pJ;rw [aH,aq,fT];have:=(tP (l:=p) (λa=>decide (a≠y))).length_le;exact aW (ai this hp) (ak rfl))
 (delta pA;with_reducible repeat' (first|apply hw|exact Bh|apply i1|apply m1|apply x1|apply s1|exact dR _ _ _|exact br|apply bt|apply bq|apply bG|apply bO|exact aE|apply av (by decide)|exact bb|apply bh (by decide)|exact aI|apply aO|exact bA|(apply b8;apply bX)|(apply bW;focus rfl)|rfl))
theorem Lf(h:Tx t)(hz:∀j∈z,j<os.length)(oR:os[tx]? =af (.list (BB t))):
  ∃os' v,cN P aj (n+1) (.top 244) [.ref tx] os z=af (.ret v,os')/\Hi os.length os os'/\Y5 os os' v (nV t):=by
 rw [DN];have Lr:=aY oR;have a0:=λfr=>dQ (o:=.dict []) rfl z fr os;refine dy (Us (P:=P) (aj:=aj) (cQ:=cN P aj n) (z:=z) h (us:=os.length) (ax os.length) Lr bV [] [(ah "texts",.ref tx),(ah "users",.ref os.length)] (os++ [.dict []]) [] (λ_ h=>h) hz (bI oR) cL (λ_ h=>absurd h aV) (by decide) bb (bh (by decide) bb)) λiz c9 es e1 k1 g1 u1 f1 f2=>?_;rw [dS] at u1;have hi1:Hi os.length os c9:=(Hi.grow (ax _) _).trans k1;have Va:=aY g1;have s1:=λfr=>NX (P:=P) (aj:=aj) (cQ:=cN P aj n) (z:=z) (fr:=fr) (os:=os++ [qf []]);have Vw:dk ae (fU (λv=>jD (cy P aj n) v) (bV.map .str)) z ⟨[("texts",.ref tx),("users",.ref os.length)],os++ [.dict []]⟩=_:=e1;have r2:=λfr=>wZ (P:=P) (aj:=aj) (cQ:=cN P aj n) (z:=z) (fr:=fr) (os:=c9);have s2:=λfr=>H3 (P:=P) (aj:=aj) (cQ:=cN P aj n) (z:=z) (fr:=fr) (cL:(c9++ [dB 0 4 1])[c9.length]? =af (.range 0 4 1));refine dD (QV (P:=P) (aj:=aj) (cQ:=cN P aj n) (z:=z) (t:=t) (us:=os.length) (tx:=tx) (es:=es) hz 4 0 (putF iz "live" (.str "abcd")) (c9++ [.range 0 4 1]) (by rw [aq];have:=hi1.len;exact ai this (aF _ _)) (bI g1) (u1.keep λj hj=>aJ hj) (by rw [aE,NU];rfl) (av (by decide) f2) (av (by decide) f1)) λkN dc e2 k2 f3 f4 f5=>?_;have GH:dk ae (fU (λv=>jE (cy P aj n) v) ((cb 0 4).map λ(i:Nat)=>bD i)) z ⟨putF iz "live" (.str "abcd"),c9++ [.range 0 4 1]⟩=_:=e2;have hk1:Hi c9.length c9 dc:=(Hi.grow (ax _) [dB 0 4 1]).Lq k2;have hi2:Hi os.length os dc:=hi1.Lq hk1;rw [show (0:Nat)+4=4 from rfl] at f3;have Vb:∀y∈cH bV t 4,Sg y:=λy hy=>nF (nh y hy);have q4:=QW (os:=dc) (Ob Vb) (show eO "" =ao by rw [Ej];exact Ob λ_ h=>absurd h aV);have eq1:decide (cZ (cH bV t 4)=ah "")=decide (cH bV t 4= []):=decide_eq_decide.mpr (QX Vb);rw [eq1] at q4;by_cases hL:cH bV t 4= []
 ·rw [decide_eq_true hL] at q4;have hd:nV t=ae:=by
   unfold nV;cases q:Ld t (cH bV t 4) bV with
   |nil=>rfl
   |cons a l=>
    have:a∈cH bV t 4:=En (q▸fm ..);rw [hL] at this;exact absurd this aV
  refine ⟨dc,.none,gz (fr:=kN) ?_,hi2,by rw [hd];rfl⟩;(delta uV pE pD pC pB;with_reducible repeat' (first|apply a0|apply s1|apply Vw|apply r2|apply s2|apply GH|apply f3|(apply kH;exact q4)|apply fe|exact oB|(apply fP (by decide))|exact dR _ _ _|exact br|apply bt|apply bq|apply bG|apply bO|exact aE|apply av (by decide)|exact bb|apply bh (by decide)|exact aI|apply aO|exact bA|(apply b8;apply bX)|(apply bW;focus rfl)|rfl))
 ·rw [decide_eq_false hL] at q4;have a5:=λfr=>dQ (o:=.list []) rfl z fr dc;have r6:=λfr=>wZ (P:=P) (aj:=aj) (cQ:=cN P aj n) (z:=z) (fr:=fr) (os:=dc++ [.list []]);have s6:=λfr=>H3 (P:=P) (aj:=aj) (cQ:=cN P aj n) (z:=z) (fr:=fr) (cL:(dc++ [cA []]++ [dB 0 4 1])[(dc++ [cA []]).length]? =af (.range 0 4 1));have lb:os.length<=dc.length:=hi2.len;refine iB (Od (P:=P) (aj:=aj) (cQ:=cN P aj n) (z:=z) (nd:=dc.length) (us:=os.length) h hz Vb lb Lr Jz [] (putF kN "named" (.ref dc.length)) (dc++ [.list []]++ [.range 0 4 1]) (λ_ h=>h) (bI (bI (hi2.at Lr oR))) (bI cL) (by decide) (av (by decide) f3) (av (by decide) f5) aE (av (by decide) f4)) λLp iI e3 k3 g3 f6 f7 f8=>?_;have ZX:dk ae (fU (λv=>iU (cy P aj n) v) ((cb 0 4).map λ(i:Nat)=>bD i)) z ⟨putF kN "named" (.ref dc.length),dc++ [.list []]++ [.range 0 4 1]⟩=_:=e3;rw [dS,show Jz.map (·.2)=bV from rfl] at g3;have X7:Hi dc.length dc iI:=((Hi.grow (ax _) [cA []]).trans (Hi.grow (by rw [aq];exact aF _ _) [dB 0 4 1])).trans k3;obtain ⟨y0,hy0⟩:∃y,(Ld t (cH bV t 4) bV).head?=af y:=by
   cases q:cH bV t 4 with
   |nil=>exact absurd q hL
   |cons a l=>
    have:a∈Ld t (cH bV t 4) bV:=WI nh (q▸fm ..);rw [q] at this;cases q2:Ld t (a::l) bV with
    |nil=>rw [q2] at this;exact absurd this aV
    |cons b r=>exact ⟨b,rfl⟩
  have i0:∀(c:Cx) fr,d8 c (.ref dc.length) (.int 0) z ⟨fr,iI⟩=af (.str y0,⟨fr,iI⟩):=λc fr=>yb (c:=c) (z:=z) (fr:=fr) (k:=0) (.inl g3) (by rw [ei,←tO,hy0];rfl) (by rw [aH];have:=Uw (L:=cH bV t 4) h;exact ai this (ak rfl));have a7:=λfr=>dQ (o:=.list [.str y0]) rfl z fr iI;have hy:y0∈cH bV t 4:=En (mE hy0);have X8:Hi os.length os iI:=hi2.Lq X7;have l3:=X8.len;have YF:Hi c9.length c9 iI:=hk1.Lq X7;refine dy (Uv (P:=P) (aj:=aj) (cQ:=cN P aj n) (z:=z) (t:=t) (fr:=putF Lp "way" (.ref iI.length)) (w:=iI.length) (us:=os.length) (es:=es) (λj hj=>ag (hz j hj) l3) (ag Va YF.len) ((cH bV t 4).length+1) [] y0 (iI++ [.list [.str y0]]) 200 hy dz (λ_ h=>absurd h aV) (by simp) (aW (u9 (t:=t) (k:=4)) (ak rfl)) aE (av (by decide) f8) (av (by decide) f6) cL (bI (YF.at Va g1)) (λx hx=>by
   obtain ⟨r,a,b⟩:=u1 x hx;exact ⟨r,ag (aY b) YF.len,a,bI (YF.at (aY b) b)⟩)) λyg p' y' e4 k4 g4 m4 l4 r4=>?_
  have t9:=Q2 (P:=P) (aj:=aj) (cQ:=cN P aj n) (z:=z) (fr:=putF Lp "way" (.ref iI.length)) aE g4 (ai l4 (ak rfl)) m4;have Vx:Hi os.length os yg:=X8.Lq ((Hi.grow (ax _) [cA [.str y0]]).trans k4);refine ⟨yg++ [.list ((pJ p' y').map .str)],.ref yg.length,gz (fr:=putF Lp "way" (.ref iI.length)) ?_,Vx.trans (Hi.grow Vx.len _),?_⟩
  ·(delta uV pE pD pC pB uU uT uS uR;with_reducible repeat' (first|apply a0|apply s1|apply Vw|apply r2|apply s2|apply GH|apply f3|(apply kH;exact q4)|(apply ite_no;focus exact bj)|apply a5|apply r6|apply s6|apply ZX|apply f7|apply i0|apply a7|apply e4|apply t9|apply fe|exact oB|(apply fP (by decide))|exact dR _ _ _|exact br|apply bt|apply bq|apply bG|apply bO|exact aE|apply av (by decide)|exact bb|apply bh (by decide)|exact aI|apply aO|exact bA|(apply b8;apply bX)|(apply bW;focus rfl)|rfl))
  ·unfold nV;rw [hy0];exact ⟨yg.length,rfl,by rw [←r4];exact cL,Vx.len⟩
def GL(t:Str->List Str)(k:Nat):List Str:=bV.filter λx=>decide (C2 bV t x=k)
def EV(t:Str->List Str)(l:List Str):List (Str × V):=l.map λx=>(x,bc (cZ (ub bV t 4 x)))
def Am(b:Nat)(os:List O):List V->List (List Str)->Prop
 | [],[]=>True
 |v::vs,l::ls=>(∃i,v= .ref i/\b<=i/\os[i]? =af (.list (l.map .str)))/\Am b os vs ls
 |_,_=>False
theorem Am.keep(k:∀i,b<=i->i<os.length->os'[i]? =os[i]?):∀{ls:List (List Str)},Am b os vs ls->Am b os' vs ls:=by
 induction vs with
 |nil=>intro ls h;cases ls with|nil=>trivial|cons _ _=>exact h.elim
 |cons v vs ih=>
  intro ls h;cases ls with
  |nil=>exact h.elim
  |cons l ls=>
   obtain ⟨⟨i,e,hb,a⟩,h2⟩:=h;exact ⟨⟨i,e,hb,(k i hb (aY a)).trans a⟩,ih h2⟩
theorem Am.snoc(hb:b<=i)(hi:os[i]? =af (.list (l.map .str))):∀{ls:List (List Str)},Am b os vs ls->Am b os (vs++ [.ref i]) (ls++ [l]):=by
 induction vs with
 |nil=>intro ls h;cases ls with|nil=>exact ⟨⟨i,rfl,hb,hi⟩,trivial⟩|cons _ _=>exact h.elim
 |cons v vs ih=>
  intro ls h;cases ls with
  |nil=>exact h.elim
  |cons l ls=>exact ⟨h.1,ih h.2⟩
theorem Am.len:∀{ls:List (List Str)},Am b os vs ls->vs.length=ls.length:=by
 induction vs with
 |nil=>intro ls h;cases ls with|nil=>rfl|cons _ _=>exact h.elim
 |cons v vs ih=>
  intro ls h;cases ls with
  |nil=>exact h.elim
  |cons l ls=>exact congrArg (· +1) (ih h.2)
theorem Gd{iv:α->V}{l:List α}{R:List O->α->V->Prop}(hb:∀uq i src,body uq i src=dk src.fz (fu (turn uq i) src.items))
  (hz:∀j∈z,j<os.length) (hf:∀j,fz=af j->j<os.length) (hN:l.length<=1000000)
  (aaa:∀c9 dc a v,(∀j,j≠os.length->j<c9.length->dc[j]? =c9[j]?)->R c9 a v->R dc a v)
  (step:∀z':List Nat,(∀j∈z',j<os.length)->∀a∈l,∀iz c9 xs,Hi os.length os c9->c9[os.length]? =af (.list xs)->xs.length+1<=1000000->
   ∃kN dc v,turn (ups fr) os.length (iv a) z' ⟨iz,c9⟩=af ((),⟨kN,dc⟩)/\dc[os.length]? =af (.list (xs++ [v]))/\R dc a v/\(∀j,j≠os.length->j<c9.length->dc[j]? =c9[j]?)/\c9.length<=dc.length):
  ∃os' vs,fg ups body ⟨l.map iv,fz⟩ z ⟨fr,os⟩=af (.ref os.length,⟨fr,os'⟩)/\os'[os.length]? =af (.list vs)/\vs.length=l.length/\(∀(k:Nat) a,l[k]? =af a->∃v,vs[k]? =af v/\R os' a v)/\Hi os.length os os':=by
 have hz':∀j∈fz.toList++z,j<os.length:=λj hj=>by
  rcases aG.mp hj with hj|hj
  ·exact hf j (yE.mp hj)
  ·exact hz j hj
 have key:∀(m d:List α) (xs:List V) (iz:eB) (c9:List O),d++m=l->xs.length=d.length->(∀(k:Nat) a,d[k]? =af a->∃v,xs[k]? =af v/\R c9 a v)->Hi os.length os c9->c9[os.length]? =af (.list xs)->
   ∃kN dc vs,fu (turn (ups fr) os.length) (m.map iv) (fz.toList++z) ⟨iz,c9⟩=af ((),⟨kN,dc⟩)/\dc[os.length]? =af (.list vs)/\vs.length=l.length/\(∀(k:Nat) a,l[k]? =af a->∃v,vs[k]? =af v/\R dc a v)/\Hi os.length os dc:=by
  intro m;induction m with
  |nil=>exact λd xs iz c9 e h0 h1 h2 h3=>⟨iz,c9,xs,rfl,h3,by rw [bB] at e;rw [h0,e],by rw [bB] at e;subst e;exact h1,h2⟩
  |cons a m ih=>
   intro d xs iz c9 e h0 h1 h2 h3;have hlen:d.length+1<=l.length:=by rw [←e,aq,aU];exact bE (lR _) _
   obtain ⟨kN,dc,v,e1,g1,r1,k1,l1⟩:=step _ hz' a (by rw [←e];exact cI _ (fm ..)) iz c9 xs h2 h3 (ag (aW (ar h0) hlen) hN);refine gj (ih (d++ [a]) (xs++ [v]) kN dc (by rw [aQ];exact e) (by rw [aq,aq,h0];rfl) (λk b hk=>by
    rcases ew k d.length with q|q
    ·rw [aJ q] at hk;obtain ⟨u,hu,hr⟩:=h1 k b hk;exact ⟨u,by refine (aJ (h0▸q)).trans ?_;exact hu,aaa _ _ _ _ k1 hr⟩
    ·rw [bT q] at hk;have:k=d.length:=by
      have:=(cS.mp hk).1;simp only [fT] at this;exact ib (mA (Nat.lt_one_iff.mp this)) q
     subst this;rw [me] at hk;injection hk with hk;subst hk
     exact ⟨v,by rw [bT (ar h0),h0,me];rfl,r1⟩) (h2.trans ⟨l1,λj hj=>k1 j (bP hj) (ag hj h2.len)⟩) g1) λLp iI vs e2 g2=>?_
   exact ⟨Lp,iI,vs,(ba (m:=turn (ups fr) os.length (iv a)) e1).trans e2,g2⟩
 refine jV (key l [] [] [] (os++ [.list []]) rfl rfl (λk a hk=>by exact nn hk) (Hi.grow (ax _) _) cL) λkN dc vs e g1 g2 g3 g4=>?_;refine ⟨dc,vs,?_,g1,g2,g3,g4⟩;refine xW (et:=kN) rfl ?_;rw [hb];exact e
theorem Q3:ka (Kw P) (.ref 239)=ao:=by kernel_rfl
theorem Q4:ka (Kw P) (.ref 244)=ao:=by kernel_rfl
def OpR(t:Str->List Str)(b:Nat)(os:List O)(x:Str)(v:V):Prop:=∃r,v= .ref r/\r≠b/\os[r]? =af (.tuple [.int (jP bV t x 4 0).1,.str (cZ (jP bV t x 4 0).2)])
theorem WJ(h:Tx t)(oR:os[tx]? =af (.list (BB t)))(hz:∀j∈z,j<os.length)(hf:getF fr "texts" =af (.ref tx)):
  ∃os' vs,fg (λfr=>fh [(ah "texts",getF fr "texts")]) (λuq i src=>xT (cy P aj (n+1)) uq i src) ⟨bV.map .str,ae⟩ z ⟨fr,os⟩=af (.ref os.length,⟨fr,os'⟩)/\os'[os.length]? =af (.list vs)/\vs.length=bV.length/\(∀(k:Nat) a,bV[k]? =af a->∃v,vs[k]? =af v/\OpR t os.length os' a v)/\Hi os.length os os':=
 Gd (turn:=λuq i v=>tf (cy P aj (n+1)) uq i v) (R:=OpR t os.length) (λ_ _ _=>rfl) hz (λ_ h=>by injection h) (by decide)
  (λc9 dc a v k ⟨r,e,h1,h2⟩=>⟨r,e,h1,(k r h1 (aY h2)).trans h2⟩)
  (λz' hz' a ha iz c9 xs h1 h2 hN=>by
   have hacc:os.length∉z':=λq=>aX _ (hz' _ q);have Cq:=aY h2;have hu:getF (fh [(ah "texts",getF fr "texts")]) "texts" =af (.ref tx):=by rw [hf];exact bb
   have l2:=λs=>iL (z:=z') (s:=s) hu;refine ck (H5 (P:=P) (aj:=aj) (z:=z') (os:=c9) (n:=n) h ha (λj hj=>aD (hz' j hj) Cq) (h1.at (aY oR) oR)) λdc r e1 k1 g1=>?_;have c1:=λfr as=>gW (P:=P) (aj:=aj) (cQ:=cN P aj (n+1)) (z:=z') (fr:=fr) (os:=c9) (as:=as) Q3;have h2':=k1.at Cq h2;have p1:=λ(c:Cx) fr=>g8 (c:=c) h2' hacc hN (.ref r) fr;have hr:r≠os.length:=λq=>by subst q;rw [h2'] at g1;cases g1
   refine ⟨putF iz "name" (.str a),dc.set os.length (.list (xs++ [.ref r])),.ref r,?_,dA h2',⟨r,rfl,hr,bC g1 λq=>hr q.symm⟩,λj hj hl=>(bH λq=>hj q.symm).trans (k1.keep j hl),by rw [dI];exact k1.len⟩;(delta tf;with_reducible repeat' (first|apply l2|(apply gE;apply c1)|apply e1|apply p1|exact dR _ _ _|exact br|apply bt|apply bq|apply bG|apply bO|exact aE|apply av (by decide)|exact bb|apply bh (by decide)|exact aI|apply aO|exact bA|(apply b8;apply bX)|(apply bW;focus rfl)|rfl)))
def dG(t:Str->List Str)(ks:List Nat):List (List Str):=(ks.map (GL t)).filter λl=>decide (l≠ [])
def dK(t:Str->List Str)(ks:List Nat):List Str:=ks.flatMap (GL t)
def Oe(t:Str->List Str)(b:Nat)(os:List O)(op:Nat):Prop:=op<b/\∃vs,os[op]? =af (.list vs)/\vs.length=4/\∀(k:Nat) a,bV[k]? =af a->∃r,r<b/\vs[k]? =af (.ref r)/\os[r]? =af (.tuple [.int (jP bV t a 4 0).1,.str (cZ (jP bV t a 4 0).2)])
theorem Oe.keep{op:Nat}(h:Oe t b os op)(hk:∀j o,j<b->os[j]? =af o->(∃xs,o= .list xs/\xs.length=4/\j=op)∨(∃xs,o= .tuple xs)->os'[j]? =af o):Oe t b os' op:=by
 refine d7 h λh0 r'1=>?_;refine cO r'1 λvs h1 h2 h3=>?_;refine ⟨h0,vs,hk op _ h0 h1 (.inl ⟨vs,rfl,h2,rfl⟩),h2,λk a e=>?_⟩;refine cO (h3 k a e) λr a0 a1 a2=>?_;exact ⟨r,a0,a1,hk r _ a0 a2 (.inr ⟨_,rfl⟩)⟩
theorem zM(h:x∈GL t k):x∈bV/\C2 bV t x=k:=⟨(bL.mp h).1,iK (bL.mp h).2⟩
theorem ju:bV.Nodup:=by decide
theorem Ge:(GL t k).Nodup:=iP.nodup ju
theorem Ux:(GL t k).length<=4:=cK ..
theorem WK{op:Nat}(ho:Oe t b os op)(hz:∀j∈z,j<os.length)(hf1:getF fr "opened" =af (.ref op))(hf2:getF fr "times" =af (.int k))(hb:b<=os.length):
  ∃os',fg (λfr=>fh [(ah "opened",getF fr "opened"),(ah "times",getF fr "times")]) (λuq i src=>tg (cx P aj cQ ao) uq i src) ⟨(cb 0 4).map λ(i:Nat)=>bD i,ae⟩ z ⟨fr,os⟩=af (.ref os.length,⟨fr,os'⟩)/\os'[os.length]? =af (.list ((GL t k).map .str))/\Hi os.length os os':=by
 refine d7 ho λh0 r'2=>?_;refine cO r'2 λvs hv1 hv2 Vd=>?_;have hlen:(Jz.flatMap λp=>if C2 bV t p.2=k then [bc p.2] else []).length<=1000000:=by
  have h1:∀p:Nat × Str,(if C2 bV t p.2=k then [bc p.2] else []).length<=1:=λp=>by split<;>simp
  have h2:∀l:List (Nat × Str),(l.flatMap λp=>if C2 bV t p.2=k then [bc p.2] else []).length<=l.length:=by
   intro l;induction l with
   |nil=>exact ax _
   |cons a l ih=>rw [bz,aq,aU];have:=h1 a;exact Yl this ih
  exact ai (h2 Jz) (by decide)
 refine cO (iV (fr:=fr) (os:=os) (z:=z) (ups:=λfr=>fh [(ah "opened",getF fr "opened"),(ah "times",getF fr "times")]) (body:=λuq i src=>tg (cx P aj cQ ao) uq i src) (turn:=λuq i v=>oA (cx P aj cQ ao) uq i v) (fz:=none) (iv:=λp:Nat × Str=>bD p.1) (f:=λp=>if C2 bV t p.2=k then [bc p.2] else []) (l:=Jz) (λ_ _ _=>rfl) hz (λ_ h=>by injection h) hlen
  (λz' hz' a ha iz c9 xs h1 h2 hN=>by
   have hat:=Em a ha;have hacc:os.length∉z':=λq=>aX _ (hz' _ q);have u1:getF (fh [(ah "opened",getF fr "opened"),(ah "times",getF fr "times")]) "opened" =af (.ref op):=by rw [hf1,hf2];exact bb
   have u2:getF (fh [(ah "opened",getF fr "opened"),(ah "times",getF fr "times")]) "times" =af (.int k):=by rw [hf1,hf2];exact bh (by decide) bb
   have l1:=λs=>iL (z:=z') (s:=s) u1;have l2:=λs=>iL (z:=z') (s:=s) u2;obtain ⟨r,r0,r1,r2⟩:=Vd a.1 a.2 hat;have i1:=λ(c:Cx) fr=>yb (c:=c) (z:=z') (fr:=fr) (.inl (h1.at (ag h0 hb) hv1)) r1 (ai (ar hv2) (ak rfl));have i2:∀(c:Cx) fr,d8 c (.ref r) (.int 0) z' ⟨fr,c9⟩=af (.int (jP bV t a.2 4 0).1,⟨fr,c9⟩):=λc fr=>yb (c:=c) (z:=z') (fr:=fr) (k:=0) (.inr (h1.at (ag r0 hb) r2)) rfl (dH 2 999998);have q1:=eq_int (a:=((jP bV t a.2 4 0).1:Nat)) (b:=(k:Nat)) c9;have i3:=λ(c:Cx) (s:eP)=>QQ (c:=c) (z:=z') (s:=s) hat;by_cases q:C2 bV t a.2=k
   ·rw [decide_eq_true (show (((jP bV t a.2 4 0).1:Nat):Int)=(k:Nat) from congrArg _ q)] at q1;simp only [if_pos q] at hN ⊢;have p1:=λ(c:Cx) fr=>g8 (c:=c) h2 hacc hN (.str a.2) fr;refine ⟨putF iz "i" (.int a.1),c9.set os.length (.list (xs++ [.str a.2])),?_,dA h2,h1.trans (Hi.set (ax _) _)⟩;(delta oA;with_reducible repeat' (first|apply l1|apply l2|apply i1|apply i2|(apply kH;exact q1)|apply i3|apply p1|exact dR _ _ _|exact br|apply bt|apply bq|apply bG|apply bO|exact aE|apply av (by decide)|exact bb|apply bh (by decide)|exact aI|apply aO|exact bA|(apply b8;apply bX)|(apply bW;focus rfl)|rfl))
   ·rw [decide_eq_false (show¬(((jP bV t a.2 4 0).1:Nat):Int)=(k:Nat) from λe=>q (kX e))] at q1;simp only [if_neg q,bB] at hN ⊢;refine ⟨putF iz "i" (.int a.1),c9,?_,h2,h1⟩;(delta oA;with_reducible repeat' (first|apply l1|apply l2|apply i1|apply i2|(apply kH;exact q1)|(apply ite_no;focus exact bj)|exact dR _ _ _|exact br|apply bt|apply bq|apply bG|apply bO|exact aE|apply av (by decide)|exact bb|apply bh (by decide)|exact aI|apply aO|exact bA|(apply b8;apply bX)|(apply bW;focus rfl)|rfl)))) λos' e g1 g2=>?_
 refine ⟨os',e,g1.trans ?_,g2⟩;congr 2;have:=qH (λi=>C2 bV t i=k) bc bV;unfold GL;rw [←this];rfl
theorem Eo(h:x∉l):jY (EV t l) x (.str (cZ (ub bV t 4 x)))=EV t (l++ [x]):=by
 rw [FN]
 ·unfold EV;refine cw▸ ?_;rfl
 ·unfold EV;rw [dw];intro q;refine aR (aT.mp q) λy hy e=>?_;exact h (e▸hy)
theorem Ep:(EV t l).length=l.length:=aH ..
theorem Of{op vd:Nat}(X9:vd∉z)(Yb:vd<b):∀(m l:List Str) (fr:eB) (os:List O),(∀x∈m,x∈bV/\C2 bV t x<4)->(l++m).Nodup->(l++m).length<=1000->Oe t b os op->os[vd]? =af (.dict (EV t l))->getF fr "opened" =af (.ref op)->getF fr "values" =af (.ref vd)->
  ∃et os',fU (λv=>kp (cx P aj cQ ao) v) (m.map .str) z ⟨fr,os⟩=af (.next,⟨et,os'⟩)/\os'.length=os.length/\(∀j,j≠vd->os'[j]? =os[j]?)/\os'[vd]? =af (.dict (EV t (l++m)))/\(∀k,k≠ah "name" ->getF et k=getF fr k):=by
 intro m;induction m with
 |nil=>exact λl fr os _ _ _ _ h1 _ _=>⟨fr,os,rfl,rfl,λ_ _=>rfl,by rw [bB];exact h1,λ_ _=>rfl⟩
 |cons x m ih=>
  intro l fr os hm nd hl ho hd hf1 hf2;obtain ⟨hx,hlv⟩:=hm x (fm ..);obtain ⟨kx,hkx⟩:=NY hx;have ho':=ho;refine d7 ho λh0 r'3=>?_;refine cO r'3 λvs hv1 hv2 Vd=>?_;refine cO (Vd kx x hkx) λr r0 r1 r2=>?_;have Yc:x∉l:=λq=>(bo.mp nd).2.2 x q x (fm ..) rfl;have m1:=λ(c:Cx) fr=>rr (c:=c) (z:=z) (fr:=fr) (os:=os) (x:=ah "abcd") za;have s1:=λ(c:Cx) (s:eP)=>BA (c:=c) (z:=z) (s:=s) hkx;have i1:=λ(c:Cx) fr=>yb (c:=c) (z:=z) (fr:=fr) (.inl hv1) r1 (ai (ar hv2) (ak rfl));have ev:(jP bV t x 4 0).2=ub bV t 4 x:=by exact congrArg _ (NP hlv)
  have i2:∀(c:Cx) fr,d8 c (.ref r) (.int 1) z ⟨fr,os⟩=af (.str (cZ (ub bV t 4 x)),⟨fr,os⟩):=λc fr=>by
   refine (ev).symm▸ ?_;exact yb (c:=c) (z:=z) (fr:=fr) (k:=1) (.inr r2) rfl (dH 2 999998)
  have ll:l.length<=999:=by rw [aq,aU] at hl;exact fc (RE hl)
  have u1:=λ(c:Cx) fr=>xY (c:=c) (z:=z) (fr:=fr) (k:=x) (v:=.str (cZ (ub bV t 4 x))) hd X9 (by rw [Eo Yc,Ep,aq];simp;exact ai ll (ak rfl));rw [Eo Yc] at u1;have st:kp (cx P aj cQ ao) (.str x) z ⟨fr,os⟩=af (.next,⟨putF fr "name" (.str x),os.set vd (.dict (EV t (l++ [x])))⟩):=by
   (delta kp;with_reducible repeat' (first|apply hf1|apply hf2|apply m1|apply s1|apply i1|apply i2|apply u1|exact dR _ _ _|exact br|apply bt|apply bq|apply bG|apply bO|exact aE|apply av (by decide)|exact bb|apply bh (by decide)|exact aI|apply aO|exact bA|(apply b8;apply bX)|(apply bW;focus rfl)|rfl))
  refine dD (ih (l++ [x]) (putF fr "name" (.str x)) (os.set vd (.dict (EV t (l++ [x])))) (λy hy=>hm y (i8 _ hy)) (by rw [aQ];exact nd) (by rw [aQ];exact hl) (ho'.keep λj o hj e hh=>bC e λq=>by
   subst q;rw [hd] at e;injection e with e
   rcases hh with ⟨xs,h1,_⟩|⟨xs,h1⟩
   ·rw [←e] at h1;injection h1
   ·rw [←e] at h1;injection h1) (dA hd) (av (by decide) hf1) (av (by decide) hf2)) λet os' e2 a1 a2 a3 a4=>?_
  refine ⟨et,os',?_,by (refine (a1).trans ?_;exact (dI)),λj hj=>(a2 j hj).trans (bH λq=>hj q.symm),?_,λk hk=>(a4 k hk).trans ?_⟩
  ·refine bx▸ ?_;exact (ij (turn:=λv=>kp (cx P aj cQ ao) v) st).trans e2
  ·rw [aQ] at a3;exact a3
  ·rw [b6,if_neg hk]
def Uy(k:Str):Prop:=k≠ah "times" /\k≠ah "group" /\k≠ah "name"
theorem WL{op gr vd:Nat}{gs:List V}{ls:List (List Str)}(hk:k<4)(hz:∀j∈z,j<os.length)(Ve:gr∉z)(Vf:vd∉z)(hgb:gr<b)(Yb:vd<b)(RA:gr≠vd)(hb:b<=os.length)(ho:Oe t b os op)(hgo:gr≠op)(hg:os[gr]? =af (.list gs))(hG:Am b os gs ls)(Vr:gs.length<=1000)(hv:os[vd]? =af (.dict (EV t l)))(nd:(l++GL t k).Nodup)(hll:l.length<=900)
  (hf1:getF fr "opened" =af (.ref op)) (hf2:getF fr "groups" =af (.ref gr)) (JQ:getF fr "values" =af (.ref vd)) (Yd:∀r,r<b->(∃xs,os[r]? =af (.tuple xs))->r≠gr):
  ∃et os' gs',jb (cx P aj cQ ao) (.int k) z ⟨fr,os⟩=af (.next,⟨et,os'⟩)/\os.length<=os'.length/\(∀j,j<os.length->j≠gr->j≠vd->os'[j]? =os[j]?)/\os'[gr]? =af (.list gs')/\Am b os' gs' (ls++if GL t k= [] then [] else [GL t k])/\os'[vd]? =af (.dict (EV t (l++GL t k)))/\(∀q,Uy q->getF et q=getF fr q):=by
 have r1:=λfr=>wZ (P:=P) (aj:=aj) (cQ:=cQ) (z:=z) (fr:=fr) (os:=os);have s1:=λfr=>H3 (P:=P) (aj:=aj) (cQ:=cQ) (z:=z) (fr:=fr) (cL:(os++ [dB 0 4 1])[os.length]? =af (.range 0 4 1));have hi0:Hi os.length os (os++ [.range 0 4 1]):=Hi.grow (ax _) _;have ho0:Oe t b (os++ [.range 0 4 1]) op:=ho.keep λj o hj e _=>bI e;refine cO (WK (P:=P) (aj:=aj) (cQ:=cQ) (z:=z) (os:=os++ [.range 0 4 1]) (fr:=putF fr "times" (.int k)) (k:=k) ho0 (λj hj=>ag (hz j hj) hi0.len) (av (by decide) hf1) aE (ai hb hi0.len)) λc9 e1 g1 k1=>?_;have hi1:Hi os.length os c9:=hi0.Lq k1;have lg:os.length<=(os++ [dB 0 4 1]).length:=hi0.len;have a2:=λfr=>dQ (o:=.list []) rfl z fr c9;have q1:=eq_nil (os:=c9++ [.list []]) (bI g1) cL (El λx hx=>nF (zM hx).1);have lgr:=aY hg;have YG:=aY hv;have YH:(c9++ [cA []])[gr]? =af (.list gs):=bI (hi1.at lgr hg);have m1:=λ(c:Cx) fr=>k9 (c:=c) (z:=z) (fr:=fr) YH mJ;have p1:=λ(c:Cx) fr=>pG (c:=c) (z:=z) (fr:=fr) (v:=.ref (os++ [dB 0 4 1]).length) YH Ve (aW Vr (ak rfl));have ll4:=Ux (t:=t) (k:=k);obtain ⟨iI,gs',XY,aab,hst,hlen3,X7⟩:∃(iI:List O) (gs':List V),iI[gr]? =af (.list gs')/\Am b iI gs' (ls++if GL t k= [] then [] else [GL t k])/\((GL t k= []/\iI=c9++ [.list []])∨(GL t k≠ []/\iI=(c9++ [cA []]).set gr (cA (gs++ [iu (os++ [dB 0 4 1]).length]))))/\(c9++ [cA []]).length=iI.length/\(∀j,j≠gr->iI[j]? =(c9++ [cA []])[j]?):=by
  have hG2:Am b (c9++ [cA []]) gs ls:=hG.keep λi _ hi=>(aJ (ag hi hi1.len)).trans (hi1.keep i hi);by_cases q:GL t k= []
  ·exact ⟨_,gs,YH,by rw [if_pos q,bB];exact hG2,.inl ⟨q,rfl⟩,rfl,λ_ _=>rfl⟩
  ·refine ⟨_,gs++ [.ref (os++ [dB 0 4 1]).length],dA YH,?_,.inr ⟨q,rfl⟩,(dI ..).symm,λj hj=>bH λe=>hj e.symm⟩;rw [if_neg q];have hG3:Am b ((c9++ [cA []]).set gr (.list (gs++ [.ref (os++ [dB 0 4 1]).length]))) gs ls:=hG2.keep λi hi _=>bH (bP (ag hgb hi));exact hG3.snoc (ai hb lg) (bC (bI g1) (bP (ag lgr lg)))
 have hold:∀j,j<os.length->j≠gr->iI[j]? =os[j]? :=λj hj hne=>(X7 j hne).trans ((aJ (ag hj hi1.len)).trans (hi1.keep j hj));have aac:iI[(os++ [dB 0 4 1]).length]? =af (.list ((GL t k).map .str)):=(X7 _ (eM (ag lgr lg))).trans (bI g1);have s3:=λfr=>src_list (P:=P) (aj:=aj) (cQ:=cQ) (z:=z) (fr:=fr) aac;have ho3:Oe t b iI op:=ho.keep λj o hj e hh=>(hold j (ag hj hb) (by
  rcases hh with ⟨_,_,_,rfl⟩|⟨xs,rfl⟩
  ·exact λq=>hgo q.symm
  ·exact Yd j hj ⟨xs,e⟩)).trans e
 refine dD (Of (P:=P) (aj:=aj) (cQ:=cQ) (z:=(os++ [dB 0 4 1]).length::z) (b:=b) (op:=op) (vd:=vd) (λq=>by
  rcases jJ q with q|q
  ·exact aX _ (ag YG (ai lg (ar q.symm)))
  ·exact Vf q) Yb (GL t k) l (putF (putF fr "times" (.int k)) "group" (.ref (os++ [dB 0 4 1]).length)) iI (λx hx=>⟨(zM hx).1,by rw [(zM hx).2];exact hk⟩) nd (by rw [aq];exact qi (dW hll ll4) rfl) ho3 ((hold vd YG (λq=>RA q.symm)).trans hv) (av (by decide) (av (by decide) hf1)) (av (by decide) (av (by decide) JQ))) λfr4 yg e4 n4 k4 d4 f4=>?_
 have e4':dk (af (os++ [dB 0 4 1]).length) (fU (λv=>kp (cx P aj cQ ao) v) ((GL t k).map .str)) z ⟨putF (putF fr "times" (.int k)) "group" (.ref (os++ [dB 0 4 1]).length),iI⟩=_:=e4;have fin:os.length<=yg.length/\(∀j,j<os.length->j≠gr->j≠vd->yg[j]? =os[j]?)/\yg[gr]? =af (.list gs')/\Am b yg gs' (ls++if GL t k= [] then [] else [GL t k])/\yg[vd]? =af (.dict (EV t (l++GL t k)))/\(∀q,Uy q->getF fr4 q=getF fr q):=
  ⟨by rw [n4,←hlen3,aq];have:=hi1.len;exact ai this (aF _ _),λj h1 h2 h3=>(k4 j h3).trans (hold j h1 h2),(k4 gr RA).trans XY,aab.keep λi hi _=>k4 i (eM (ag Yb hi)),d4,λq hq=>(f4 q hq.2.2).trans (by rw [b6,if_neg hq.2.1,b6,if_neg hq.1])⟩
 refine ⟨fr4,yg,gs',?_,fin⟩;rcases hst with ⟨q,rfl⟩|⟨q,rfl⟩
 ·rw [decide_eq_true q] at q1;(delta jb;with_reducible repeat' (first|apply r1|apply s1|apply e1|apply a2|(apply yZ;exact q1)|(apply ite_no;focus exact Ut)|apply s3|apply e4'|exact dR _ _ _|exact br|apply bt|apply bq|apply bG|apply bO|exact aE|apply av (by decide)|exact bb|apply bh (by decide)|exact aI|apply aO|exact bA|(apply b8;apply bX)|(apply bW;focus rfl)|rfl))
 ·rw [decide_eq_false q] at q1;(delta jb;with_reducible repeat' (first|apply hf2|apply r1|apply s1|apply e1|apply a2|(apply yZ;exact q1)|(apply bW;focus exact WH)|apply m1|apply p1|apply s3|apply e4'|exact dR _ _ _|exact br|apply bt|apply bq|apply bG|apply bO|exact aE|apply av (by decide)|exact bb|apply bh (by decide)|exact aI|apply aO|exact bA|(apply b8;apply bX)|(apply bW;focus rfl)|rfl))
def H7(os:List O)(d:V)(rg:Option (List Str))(G:List (List Str))(es:List (Str × V)):Prop:=∃i v1 v2 g m gs,d= .ref i/\os[i]? =af (.tuple [v1,v2,.ref g,.ref m])/\eg os 7 v1=af (F6 rg)/\eg os 7 v2=af (C5 rg)/\os[g]? =af (.list gs)/\Am 0 os gs G/\os[m]? =af (.dict es)
theorem Am.low:∀{ls:List (List Str)},Am b os vs ls->Am 0 os vs ls:=by
 induction vs with
 |nil=>intro ls h;cases ls with|nil=>trivial|cons _ _=>exact h.elim
 |cons v vs ih=>
  intro ls h;cases ls with
  |nil=>exact h.elim
  |cons l ls=>
   obtain ⟨⟨i,e,hb,a⟩,h2⟩:=h;exact ⟨⟨i,e,eS _,a⟩,ih h2⟩
theorem H8:x∈dK t ks↔x∈bV/\C2 bV t x∈ks:=by
 unfold dK;rw [cJ];constructor
 ·rintro ⟨k,hk,hx⟩;obtain ⟨a,b⟩:=zM hx;exact ⟨a,b▸hk⟩
 ·rintro ⟨a,b⟩;exact ⟨_,b,bL.mpr ⟨a,decide_eq_true rfl⟩⟩
theorem BD(h:ks.Nodup):(dK t ks).Nodup:=by
 induction ks with
 |nil=>exact dz
 |cons k ks ih=>
  have h':=bu.mp h;show (GL t k++dK t ks).Nodup;refine bo.mpr ⟨Ge,ih h'.2,λa ha b hb e=>?_⟩;subst e;exact h'.1 ((zM ha).2▸(H8.mp hb).2)
theorem JB:dK t (ks++ [k])=dK t ks++GL t k:=by
 unfold dK;rw [ot,jn]
theorem Q5:dG t (ks++ [k])=dG t ks++if GL t k= [] then [] else [GL t k]:=by
 unfold dG;rw [cw,qb];congr 1;show [GL t k].filter _=_;by_cases q:GL t k= []
 ·rw [if_pos q,b7 (by simpa using q)];rfl
 ·rw [if_neg q,cu (by simpa using q)];rfl
theorem Uz(h:ks.Nodup):(dK t ks).length<=4:=jt (BD h) λx hx=>(H8.mp hx).1
theorem UA:(dG t ks).length<=ks.length:=ai (cK ..) (by rw [aH];exact ax _)
theorem UB{op gr vd:Nat}(Ve:gr∉z)(Vf:vd∉z)(hgb:gr<b)(Yb:vd<b)(RA:gr≠vd)(hgo:gr≠op)(Il:vd≠op)(Yd:∀r,r<b->∀os:List O,(∃xs,os[r]? =af (.tuple xs))->(∃ys,os[gr]? =af (.list ys))->(∃es,os[vd]? =af (.dict es))->r≠gr/\r≠vd):∀(m k:Nat) (fr:eB) (os:List O) (gs:List V),k+m=4->(∀j∈z,j<os.length)->b<=os.length->Oe t b os op->os[gr]? =af (.list gs)->Am b os gs (dG t (cb 0 k))->os[vd]? =af (.dict (EV t (dK t (cb 0 k))))->getF fr "opened" =af (.ref op)->getF fr "groups" =af (.ref gr)->getF fr "values" =af (.ref vd)->
  ∃et os' gs',fU (λv=>jb (cx P aj cQ ao) v) ((cb k m).map λ(i:Nat)=>bD i) z ⟨fr,os⟩=af (.next,⟨et,os'⟩)/\os.length<=os'.length/\(∀j,j<os.length->j≠gr->j≠vd->os'[j]? =os[j]?)/\os'[gr]? =af (.list gs')/\Am b os' gs' (dG t (cb 0 4))/\os'[vd]? =af (.dict (EV t (dK t (cb 0 4))))/\(∀q,Uy q->getF et q=getF fr q):=by
 intro m;induction m with
 |zero=>intro k fr os gs hk _ _ _ h1 h2 h3 _ _ _;obtain rfl:k=4:=hk;exact ⟨fr,os,gs,rfl,ax _,λ_ _ _ _=>rfl,h1,h2,h3,λ_ _=>rfl⟩
 |succ m ih=>
  intro k fr os gs hk hz hb ho hg hG hv hf1 hf2 JQ;have hnd:(cb 0 (k+1)).Nodup:=qR ..;have hrc:cb 0 (k+1)=cb 0 k++ [k]:=by rw [List.range'_1_concat,fH]
  have gl:=hG.len;have gl2:=UA (t:=t) (ks:=cb 0 k);rw [List.length_range'] at gl2;have kl:=Uz (t:=t) (qR (s:=0) (n:=k) (step:=1));refine dy (WL (P:=P) (aj:=aj) (cQ:=cQ) (z:=z) (k:=k) (Vk hk) hz Ve Vf hgb Yb RA hb ho hgo hg hG (ai (ai (ai (ar gl) gl2) (cM hk)) (ak rfl)) hv (by rw [←JB,←hrc];exact BD hnd) (ai kl (ak rfl)) hf1 hf2 JQ λr hr hx=>(Yd r hr os hx ⟨_,hg⟩ ⟨_,hv⟩).1) λiz c9 Vy e1 l1 k1 g1 G1 r'1=>?_;refine d7 r'1 λv1 f1=>?_;rw [←Q5,←hrc] at G1;rw [←JB,←hrc] at v1;have ho1:Oe t b c9 op:=ho.keep λj o hj e hh=>(k1 j (ag hj hb) (by
   rcases hh with ⟨_,_,_,rfl⟩|⟨xs,rfl⟩
   ·exact λq=>hgo q.symm
   ·exact (Yd j hj os ⟨xs,e⟩ ⟨_,hg⟩ ⟨_,hv⟩).1) (by
   rcases hh with ⟨_,_,_,rfl⟩|⟨xs,rfl⟩
   ·exact λq=>Il q.symm
   ·exact (Yd j hj os ⟨xs,e⟩ ⟨_,hg⟩ ⟨_,hv⟩).2)).trans e
  refine dy (ih (k+1) iz c9 Vy ((aN _ _ _).trans hk) (λj hj=>ag (hz j hj) l1) (ai hb l1) ho1 g1 G1 v1 ((f1 _ ⟨by decide,by decide,by decide⟩).trans hf1) ((f1 _ ⟨by decide,by decide,by decide⟩).trans hf2) ((f1 _ ⟨by decide,by decide,by decide⟩).trans JQ)) λkN dc Ye e2 l2 k2 g2 G2 r'2=>?_;refine d7 r'2 λv2 f2=>?_;refine ⟨kN,dc,Ye,?_,ai l1 l2,λj h1 h2 h3=>(k2 j (ag h1 l1) h2 h3).trans (k1 j h1 h2 h3),g2,G2,v2,λq hq=>(f2 q hq).trans (f1 q hq)⟩;rw [ku,bx];exact (ij (turn:=λv=>jb (cx P aj cQ ao) v) e1).trans e2
theorem Og(h:Tx t)(hz:∀j∈z,j<os.length)(oR:os[tx]? =af (.list (BB t))):
  ∃os' d,cN P aj (n+2) (.top 249) [.ref tx] os z=af (.ret d,os')/\Hi os.length os os'/\H7 os' d (nV t) (dG t (cb 0 4)) (EV t (dK t (cb 0 4))):=by
 rw [Fw];have Lr:=aY oR;refine ck (Lf (P:=P) (aj:=aj) (z:=z) (os:=os) (n:=n) h hz oR) λc9 v1 e1 k1 r1=>?_;have c1:=λfr as=>gW (P:=P) (aj:=aj) (cQ:=cN P aj (n+1)) (z:=z) (fr:=fr) (os:=os) (as:=as) Q4;have OQ:=k1.at Lr oR;have s2:=λfr=>NX (P:=P) (aj:=aj) (cQ:=cN P aj (n+1)) (z:=z) (fr:=fr) (os:=c9);have hz1:∀j∈z,j<c9.length:=λj hj=>ag (hz j hj) k1.len;refine dD (WJ (P:=P) (aj:=aj) (z:=z) (os:=c9) (n:=n) (fr:=[(ah "texts",.ref tx),(ah "ring",v1)]) h OQ hz1 bb) λdc vs e2 g2 n2 o2 k2=>?_;have a3:=λfr=>dQ (o:=.list []) rfl z fr dc;have a4:=λfr=>dQ (o:=.dict []) rfl z fr (dc++ [.list []]);have l12:=k2.len;have Vz:=k1.len;have Ly:=aY g2;have r5:=λfr=>wZ (P:=P) (aj:=aj) (cQ:=cN P aj (n+1)) (z:=z) (fr:=fr) (os:=dc++ [.list []]++ [.dict []]);have s5:=λfr=>H3 (P:=P) (aj:=aj) (cQ:=cN P aj (n+1)) (z:=z) (fr:=fr) (cL:(dc++ [cA []]++ [qf []]++ [dB 0 4 1])[(dc++ [cA []]++ [qf []]).length]? =af (.range 0 4 1));have L3:(dc++ [cA []]).length=dc.length+1:=by rw [aq];rfl
 have L4:(dc++ [cA []]++ [qf []]).length=dc.length+2:=by rw [aq,L3];rfl
 have L5:(dc++ [cA []]++ [qf []]++ [dB 0 4 1]).length=dc.length+3:=by rw [aq,L4];rfl
 have hop:Oe t (dc.length+2) (dc++ [cA []]++ [qf []]++ [dB 0 4 1]) c9.length:=⟨ag Ly (aF _ _),vs,bI (bI (bI g2)),n2,λk a e=>by
  refine aR (o2 k a e) λv hv r'3=>?_;refine cO r'3 λr q1 q2 q3=>?_;subst q1;exact ⟨r,ag (aY q3) (aF _ _),hv,bI (bI (bI q3))⟩⟩
 have hgr:(dc++ [cA []]++ [qf []]++ [dB 0 4 1])[dc.length]? =af (.list []):=bI (bI cL);have X9:(dc++ [cA []]++ [qf []]++ [dB 0 4 1])[dc.length+1]? =af (.dict (EV t (dK t (cb 0 0)))):=by
  have:(dc++ [cA []]++ [qf []])[(dc++ [cA []]).length]? =af (.dict []):=cL;rw [L3] at this;exact bI this
 refine dy (UB (P:=P) (aj:=aj) (cQ:=cN P aj (n+1)) (z:=z) (t:=t) (b:=dc.length+2) (op:=c9.length) (gr:=dc.length) (vd:=dc.length+1) (λq=>aX _ (ag (hz _ q) (bS (aW Vz Ly)))) (λq=>aX _ (ag (jh (hz _ q)) (bS (aW Vz Ly)))) (sA (by decide)) (bU _) (bP (bU _)) (eM Ly) (eM (aD Ly (bU _)))
  (λr _ os ⟨xs,hx⟩ ⟨ys,hy⟩ ⟨es,he⟩=>⟨(λq=>by subst q;rw [hx] at hy;injection hy with hy;injection hy),(λq=>by subst q;rw [hx] at he;injection he with he;injection he)⟩) 4 0 [(ah "texts",.ref tx),(ah "ring",v1),(ah "opened",.ref c9.length),(ah "groups",.ref dc.length),(ah "values",.ref (dc.length+1))] (dc++ [.list []]++ [.dict []]++ [.range 0 4 1]) [] rfl (λj hj=>ag (aD (ag (hz j hj) Vz) Ly) (cM L5.symm)) (eN (ar L5.symm)) hop hgr trivial X9
  (bh (by decide) (bh (by decide) bb)) (bh (by decide) (bh (by decide) (bh (by decide) bb))) (bh (by decide) (bh (by decide) (bh (by decide) (bh (by decide) bb))))) λOT sL YI e6 l6 k6 g6 G6 r'4=>?_;refine d7 r'4 λv6 f6=>?_
 rw [L5] at l6 k6;have SA:getF OT "ring" =af v1:=(f6 _ ⟨by decide,by decide,by decide⟩).trans (bh (by decide) bb);have ggr:getF OT "groups" =af (.ref dc.length):=(f6 _ ⟨by decide,by decide,by decide⟩).trans (bh (by decide) (bh (by decide) (bh (by decide) bb)));have YJ:getF OT "values" =af (.ref (dc.length+1)):=(f6 _ ⟨by decide,by decide,by decide⟩).trans (bh (by decide) (bh (by decide) (bh (by decide) (bh (by decide) bb))));have e6':dk ae (fU (λv=>jb (cy P aj (n+1)) v) ((cb 0 4).map λ(i:Nat)=>bD i)) z ⟨[("texts",.ref tx),("ring",v1),("opened",.ref c9.length),("groups",.ref dc.length),("values",.ref (dc.length+1))],dc++ [.list []]++ [.dict []]++ [.range 0 4 1]⟩=_:=e6;rw [L3] at a4;have hold:∀j,j<dc.length->sL[j]? =dc[j]? :=λj hj=>(k6 j (ag hj (aF _ _)) (bP hj) (bP (aD hj (bU _)))).trans ((aJ (ag hj (cM L4.symm))).trans ((aJ (aD hj (ar L3.symm))).trans (aJ hj)));have SD:Hi os.length os sL:=⟨bS (ag (aW Vz Ly) (dY l6)),λj hj=>(hold j (aD (ag hj Vz) Ly)).trans ((k2.keep j (ag hj Vz)).trans (k1.keep j hj))⟩;have dv1:∀os7:List O,(∀j,j<sL.length->os7[j]? =sL[j]?)->eg os7 7 v1=af (F6 (nV t)):=λos7 h7=>y9 (os:=c9) (λj hj=>(h7 j (ag (aD hj Ly) (dY l6))).trans ((hold j (aD hj Ly)).trans (k2.keep j hj))) (QO r1);induction hr:nV t using aw with
 |none=>
  rw [hr] at r1 dv1;obtain rfl:v1= .none:=r1;have a7:=λfr=>dQ (o:=.tuple [.none,.none,.ref dc.length,.ref (dc.length+1)]) rfl z fr sL;refine ⟨sL++ [.tuple [.none,.none,.ref dc.length,.ref (dc.length+1)]],.ref sL.length,gz (fr:=OT) ?_,SD.trans (Hi.grow SD.len _),sL.length,.none,.none,dc.length,dc.length+1,YI,rfl,cL,rfl,rfl,bI g6,(G6.keep λi _ hi=>aJ hi).low,bI v6⟩;(delta wU ro rn rj rh rf;with_reducible repeat' (first|(apply gE;apply c1)|apply e1|apply s2|apply e2|apply a3|apply a4|apply r5|apply s5|apply e6'|apply SA|apply ggr|apply YJ|(apply pF;focus with_unfolding_all exact rfl)|apply a7|apply fe|exact oB|(apply fP (by decide))|exact dR _ _ _|exact br|apply bt|apply bq|apply bG|apply bO|exact aE|apply av (by decide)|exact bb|apply bh (by decide)|exact aI|apply aO|exact bA|(apply b8;apply bX)|(apply bW;focus rfl)|rfl))
 |some rg=>
  rw [hr] at r1 dv1;refine cO r1 λi q'5 hi _=>?_;obtain rfl:=q'5;have a7:=λfr=>dQ (o:=.tuple [.str "ring",.ref i]) rfl z fr sL;have a8:=λfr=>dQ (o:=.tuple [.ref i,.ref sL.length,.ref dc.length,.ref (dc.length+1)]) rfl z fr (sL++ [.tuple [.str "ring",.ref i]]);have kk:∀j,j<sL.length->(sL++ [jk [.str "ring",.ref i]]++ [jk [.ref i,.ref sL.length,.ref dc.length,.ref (dc.length+1)]])[j]? =sL[j]? :=λj hj=>(aJ (by rw [aq];exact ag hj (aF _ _))).trans (aJ hj);have hpp:Y7 (sL++ [jk [.str "ring",.ref i]]++ [jk [.ref i,.ref sL.length,.ref dc.length,.ref (dc.length+1)]]) ⟨0,0,0,[],ae,0,0⟩ (.ref sL.length) (af rg)->eg (sL++ [jk [.str "ring",.ref i]]++ [jk [.ref i,.ref sL.length,.ref dc.length,.ref (dc.length+1)]]) 7 (.ref sL.length)=af (C5 (af rg)):=Jw;have dp:eg (sL++ [jk [.str "ring",.ref i]]++ [jk [.ref i,.ref sL.length,.ref dc.length,.ref (dc.length+1)]]) 7 (.ref sL.length)=af (C5 (af rg)):=by
   refine .trans (wY (xs:=[.str "ring",.ref i]) (bI cL)) ?_;have hi':=(kk i (ag (aD (aY hi) Ly) (dY l6))).trans ((hold i (aD (aY hi) Ly)).trans ((k2.at (aY hi) hi)));simp only [dataL,By,kq hi',cU,ct];rfl
  refine ⟨sL++ [.tuple [.str "ring",.ref i]]++ [.tuple [.ref i,.ref sL.length,.ref dc.length,.ref (dc.length+1)]],.ref (sL++ [jk [.str "ring",.ref i]]).length,gz (fr:=OT) ?_,(SD.trans (Hi.grow SD.len _)).trans (Hi.grow (by rw [aq];have:=SD.len;exact ai this (aF _ _)) _),_,.ref i,.ref sL.length,dc.length,dc.length+1,YI,rfl,cL,dv1 _ kk,dp,bI (bI g6),(G6.keep λi _ hi=>kk i hi).low,bI (bI v6)⟩;(delta wU ro rn rj rh rf;with_reducible repeat' (first|(apply gE;apply c1)|apply e1|apply s2|apply e2|apply a3|apply a4|apply r5|apply s5|apply e6'|apply SA|apply ggr|apply YJ|(apply pF;focus with_unfolding_all exact rfl)|(apply ite_no;focus exact bj)|apply a7|apply a8|apply fe|exact oB|(apply fP (by decide))|exact dR _ _ _|exact br|apply bt|apply bq|apply bG|apply bO|exact aE|apply av (by decide)|exact bb|apply bh (by decide)|exact aI|apply aO|exact bA|(apply b8;apply bX)|(apply bW;focus rfl)|rfl))
theorem Gf{v0 v1:V}:∀rs:List V,rs.length<=9->cN P aj (n+1) (.top 87) (v0::v1::rs) os z=nA (xQ (cy P aj n) z ⟨[("self",v0),("node",v1),("predecessors",.ref os.length)],os++ [.tuple rs]⟩):=by
 intro rs h;rcases rs with _|⟨a,rs⟩
 ·kernel_rfl
 rcases rs with _|⟨b,rs⟩
 ·kernel_rfl
 rcases rs with _|⟨c,rs⟩
 ·kernel_rfl
 rcases rs with _|⟨d,rs⟩
 ·kernel_rfl
 rcases rs with _|⟨e,rs⟩
 ·kernel_rfl
 rcases rs with _|⟨f,rs⟩
 ·kernel_rfl
 rcases rs with _|⟨g,rs⟩
 ·kernel_rfl
 rcases rs with _|⟨i,rs⟩
 ·kernel_rfl
 rcases rs with _|⟨j,rs⟩
 ·kernel_rfl
 rcases rs with _|⟨k,rs⟩
 ·kernel_rfl
 exact absurd h (by simp only [aU];exact tu.mpr (dH 10 _))
theorem Er{v0:V}:∀rs:List V,rs.length<=4->cN P aj (n+1) (.top 120) (v0::rs) os z=nA (yW (cy P aj n) z ⟨[("self",v0),("nodes",.ref os.length)],os++ [.tuple rs]⟩):=by
 intro rs h;rcases rs with _|⟨a,rs⟩
 ·kernel_rfl
 rcases rs with _|⟨b,rs⟩
 ·kernel_rfl
 rcases rs with _|⟨c,rs⟩
 ·kernel_rfl
 rcases rs with _|⟨d,rs⟩
 ·kernel_rfl
 rcases rs with _|⟨e,rs⟩
 ·kernel_rfl
 exact absurd h (by simp only [aU];exact tu.mpr (dH 5 _))
theorem nG{l:List Nd}:(l.map nv).map (·.1)=l.map (·.nm):=by rw [dw];rfl
theorem Lg:∀(us:List Str) (p:List NV × List Str),(∀u∈us,u∈p.1.map (·.1))->Sm p.1 (us.foldl y6 p).1/\(∀x,x∉us->kM (us.foldl y6 p).1 x=kM p.1 x)/\(us.foldl y6 p).2.length<=p.2.length+us.length:=by
 intro us;induction us with
 |nil=>exact λp _=>⟨.refl,λ_ _=>rfl,ax _⟩
 |cons u us ih=>
  intro p h;refine cW (ih (y6 p u) λv hv=>by
   show v∈(kI u _ p.1).map (·.1);rw [lA];exact h v (i8 _ hv)) λa b c=>?_
  refine ⟨Sm.kI.trans a,λx hx=>?_,?_⟩
  ·refine (b x λq=>hx (i8 _ q)).trans ?_;show kM (kI u _ p.1) x=_;rw [vK (h u (fm ..)),if_neg λ(q:x=u)=>hx (q▸fm ..)]
  ·refine ai c ?_;have:(y6 p u).2.length<=p.2.length+1:=by
    show (if _ then p.2++ [u] else p.2).length<=_;split
    ·rw [aq];exact ax _
    ·exact lF _
   rw [aU];exact ai (cg this _) (ar (aN _ _ _))
structure DS(G:List NV)(ys:List Str):Prop where
 np:∀y∈ys,y∈G.map (·.1)/\kM G y= -1
 cl:∀y∈ys,∀u∈x7 G y,u∈G.map (·.1)/\u∉ys
 ss:∀y∈ys,(x7 G y).length<=100
theorem UC:∀{ys:List Str}{S:Sr}{fr:eB}{os:List O}{l:List Str},gy os S->S.rd=af (r,l)->Zw z S->ys.Nodup->DS (S.dj.map nv) ys->l.length+100*ys.length<=900->getF fr "n2i" =af (.ref S.hV)->getF fr "self" =af (.ref S.i)->
  ∃et os' jv l',fU (λv=>lD (cx P aj cQ ao) v) (ys.map .str) z ⟨fr,os⟩=af (.next,⟨et,os'⟩)/\gy os' {S with dj:=jv,rd:=af (r,l'),fi:=S.fi+ys.length}/\mx os S os' {S with dj:=jv,rd:=af (r,l'),fi:=S.fi+ys.length}/\(jv.map nv,l')=ys.foldl ya (S.dj.map nv,l):=by
 intro ys;induction ys with
 |nil=>
  intro S fr os l h hr _ _ _ _ _ _;exact ⟨fr,os,S.dj,l,rfl,by rw [←hr];simpa using h,by rw [←hr];simpa using mx.refl,rfl⟩
 |cons y ys ih=>
  intro S fr os l h hr hz nd hd hs hn hS;rw [aU] at hs;obtain ⟨Vu,hnp⟩:=hd.np y (fm ..);rw [nG] at Vu;refine aR (aT.mp Vu) λx hx e=>?_;subst e;have Ip:=bu.mp nd;have enp:kM (S.dj.map nv) x.nm=x.np:=Nw h.names hx;have ess:x7 (S.dj.map nv) x.nm=x.ss:=Nx h.names hx;have sx:=hd.ss x.nm (fm ..);have Yg:=hd.cl x.nm (fm ..);rw [ess] at sx Yg;rw [nG] at Yg;refine kh (K3 (P:=P) (aj:=aj) (cQ:=cQ) h hr hz hx (enp.symm.trans hnp) (λu hu=>(Yg u hu).1) (ai (bE (ai sx (dH _ _)) _) hs) hn hS) λiz c9 Ey l1 e1 h1 f1 q1 n1 r'1=>?_;refine d7 r'1 λs1 i1=>?_;have est:ya (S.dj.map nv,l) x.nm=(Ey.map nv,l1):=by
   unfold ya;show (x7 (S.dj.map nv) x.nm).foldl y6 _=_;rw [ess,q1]
  refine cW (Lg x.ss (kI x.nm (-2) (S.dj.map nv),l) λu hu=>by
   show u∈(kI _ _ _).map (·.1);rw [lA,nG];exact (Yg u hu).1) λYA Vv ln1=>?_
  rw [←q1] at YA Vv ln1;have YK:Sm (S.dj.map nv) (Ey.map nv):=Sm.kI.trans YA;have hd1:DS (Ey.map nv) ys:=by
   refine ⟨λy hy=>?_,λy hy u hu=>?_,λy hy=>?_⟩
   ·obtain ⟨a,b⟩:=hd.np y (i8 _ hy);refine ⟨by rw [YK.nm];exact a,?_⟩;have hyx:y≠x.nm:=λq=>Ip.1 (q▸hy);have hyu:y∉x.ss:=λq=>(Yg y q).2 (i8 _ hy);have h1:kM (Ey.map nv) y=kM (kI x.nm (-2) (S.dj.map nv)) y:=Vv y hyu;rw [h1,vK (by rw [nG];exact Vu),if_neg hyx];exact b
   ·rw [YK.ss] at hu;obtain ⟨a,b⟩:=hd.cl y (i8 _ hy) u hu;exact ⟨by rw [YK.nm];exact a,λq=>b (i8 _ q)⟩
   ·rw [YK.ss];exact hd.ss y (i8 _ hy)
  have hz1:Zw z ({S with dj:=Ey,rd:=af (r,l1),fi:=S.fi+1}:Sr):=hz.Lo i1 (λq hq=>by show q∈Ck S.rd;rw [hr];exact hq) rfl;refine sP (ih (S:={S with dj:=Ey,rd:=af (r,l1),fi:=S.fi+1}) (l:=l1) h1 rfl hz1 Ip.2 hd1 (ai (cg (ai ln1 (bE sx _)) _) (ai (ar (aN _ _ _)) hs)) n1 s1) λkN dc Iq l2 e2 h2 f2 q2=>?_;have efi:S.fi+1+(ys.length:Int)=S.fi+((x.nm::ys).length:Nat):=by rw [aU];exact (Int.add_assoc _ _ _).trans (congrArg _ (yh _ _))
  refine ⟨kN,dc,Iq,l2,?_,by rw [←efi];exact h2,by rw [←efi];exact f1.trans f2,?_⟩
  ·rw [bx];exact (ij (turn:=λv=>lD (cx P aj cQ ao) v) e1).trans e2
  ·rw [q2,fO,est]
theorem Lh{ys:List Str}(h:gy os S)(hr:S.rd=af (r,l))(hz:Bj z os S)(nd:ys.Nodup)(hd:DS (S.dj.map nv) ys)(hs:l.length+100*ys.length<=900)(h4:ys.length<=4):
  ∃os' jv l',cN P aj (n+1) (.top 120) (.ref S.i::ys.map .str) os z=af (.ret .none,os')/\gy os' {S with dj:=jv,rd:=af (r,l'),fi:=S.fi+ys.length}/\mx os S os' {S with dj:=jv,rd:=af (r,l'),fi:=S.fi+ys.length}/\(jv.map nv,l')=ys.foldl ya (S.dj.map nv,l):=by
 rw [Er _ (by rw [aH];exact h4)];have h1:=h.grow [.tuple (ys.map .str)];have f1:mx os S (os++ [.tuple (ys.map .str)]) S:=mx.grow _;have a:=λfr=>h1.attr (P:=P) (aj:=aj) (cQ:=cN P aj n) fr z ao;rw [hr] at a;have a1:=λfr=>(a fr).2.1;have a2:=λfr=>(a fr).1;have t1:(os++ [jk (ys.map .str)])[os.length]? =af (.tuple (ys.map .str)):=cL;have a3:=λfr=>src_tuple (P:=P) (aj:=aj) (cQ:=cN P aj n) (z:=z) (fr:=fr) t1;have tn:os.length∉idx S:=λq=>absurd (h.lt _ q) (aX _);have hz1:Bj (os.length::z) (os++ [.tuple (ys.map .str)]) S:=λj hj=>by
  rcases jJ hj with rfl|hj
  ·exact ⟨aY t1,tn⟩
  ·exact ⟨ag (hz j hj).1 f1.len,(hz j hj).2⟩
 refine sP (UC (P:=P) (aj:=aj) (cQ:=cN P aj n) (fr:=[(ah "self",.ref S.i),(ah "nodes",.ref os.length),(ah "n2i",.ref S.hV)]) h1 hr hz1.zw nd hd hs (by rfl) (by rfl)) λet os' jv l' r1 r2 r3 r4=>?_;have r1':dk (af os.length) (fU (λv=>lD (cy P aj n) v) (ys.map .str)) z ⟨[("self",.ref S.i),("nodes",.ref os.length),("n2i",.ref S.hV)],os++ [.tuple (ys.map .str)]⟩=af (.next,⟨et,os'⟩):=r1;refine ⟨os',jv,l',?_,r2,f1.trans r3,r4⟩;have:yW (cy P aj n) z ⟨[("self",.ref S.i),("nodes",.ref os.length)],os++ [.tuple (ys.map .str)]⟩=af (.next,⟨et,os'⟩):=by
  (delta yW;with_reducible repeat' (first|apply a1|apply a2|apply a3|apply r1'|apply fe|(apply fP (by decide))|(apply pF;focus with_unfolding_all exact rfl)|(apply ite_no;focus exact bj)|exact dR _ _ _|exact br|apply bt|apply bq|apply bG|apply bO|exact aE|apply av (by decide)|exact bb|apply bh (by decide)|exact aI|apply aO|exact bA|(apply b8;apply bX)|(apply bW;focus rfl)|rfl))
 rw [this];rfl
theorem WM(hs:∀y∈l,Sg y)(hz:∀j∈z,j<os.length)(hf:∀j,fz=af j->j<os.length)(hl:l.length<=100000):
  ∃os',fg (λfr=>fh []) (λuq i src=>td (cx P aj cQ ao) uq i src) ⟨l.map .str,fz⟩ z ⟨fr,os⟩=af (.ref os.length,⟨fr,os'⟩)/\os'[os.length]? =af (.list ((l.filter λa=>decide (a∈bV)).map .str))/\Hi os.length os os':=
 vN (turn:=λuq i v=>ow (cx P aj cQ ao) uq i v) (λa=>a∈bV) (λ_ _ _=>rfl) hz hf hl (λz' a ha q iz c9 dc p1=>by
  have c1:=λ(c:Cx) (s:eP)=>Bz (c:=c) (z:=z') (s:=s) (hs a ha);rw [decide_eq_true q] at c1;exact ⟨putF iz "sign" (.str a),by (delta ow;with_reducible repeat' (first|apply c1|apply p1|exact dR _ _ _|exact br|apply bt|apply bq|apply bG|apply bO|exact aE|apply av (by decide)|exact bb|apply bh (by decide)|exact aI|apply aO|exact bA|(apply b8;apply bX)|(apply bW;focus rfl)|rfl))⟩) (λz' a ha q iz c9=>by
  have c1:=λ(c:Cx) (s:eP)=>Bz (c:=c) (z:=z') (s:=s) (hs a ha);rw [decide_eq_false q] at c1;exact ⟨putF iz "sign" (.str a),by (delta ow;with_reducible repeat' (first|apply c1|(apply ite_no;focus exact bj)|exact dR _ _ _|exact br|apply bt|apply bq|apply bG|apply bO|exact aE|apply av (by decide)|exact bb|apply bh (by decide)|exact aI|apply aO|exact bA|(apply b8;apply bX)|(apply bW;focus rfl)|rfl))⟩)
theorem Q6(h:Tx t)(hx:x∈bV):(rU bV t x).length<=9:=ai (cK ..) (h.len x hx)
theorem WN:Me.isFn (.fn 87)=ao:=rfl
theorem UD:Me.isFn (.fn 120)=ao:=rfl
theorem WO(ht:Tx t){p:Nat × Str}(hp:p∈Jz)(h:gy os S)(h0:S.rd=ae)(hz:Bj z os S)(hs:Sz S (k+20))(oR:os[tx]? =af (.list (BB t)))(hf1:getF fr "sorter" =af (.ref S.i))(hf2:getF fr "texts" =af (.ref tx)):
  ∃os' S',kn (cy P aj (n+3)) (.int p.1) z ⟨fr,os⟩=af (.next,⟨putF fr "i" (.int p.1),os'⟩)/\gy os' S'/\mx os S os' S'/\Lk S S' (Cm (S.dj.map nv) p.2 (rU bV t p.2))/\Sz S' k:=by
 have hat:=Em p hp;have hmem:p.2∈bV:=bN hat;have hz0:∀j∈z,j<os.length:=λj hj=>(hz j hj).1;have b1:=λfr=>h.D2 (P:=P) (aj:=aj) (cQ:=cN P aj (n+3)) (M1 P) noName.2.1 fr z ao;have i1:=λ(c:Cx) fr=>yb (c:=c) (z:=z) (fr:=fr) (.inl oR) (Ga (t:=t) hat) BC;have i2:=λ(c:Cx) (s:eP)=>QQ (c:=c) (z:=z) (s:=s) hat;have s1:=λfr=>qG (P:=P) (aj:=aj) (cQ:=cN P aj (n+3)) (z:=z) (fr:=fr) (os:=os) (ht.sg p.2 hmem);refine cO (WM (P:=P) (aj:=aj) (cQ:=cN P aj (n+3)) (z:=z) (os:=os) (fr:=putF fr "i" (.int p.1)) (fz:=none) (ht.sg p.2 hmem) hz0 (λ_ h=>by injection h) (ai (ht.len p.2 hmem) (ak rfl))) λc9 e1 g1 k1=>?_;have GF:c9[os.length]? =af (.list ((rU bV t p.2).map .str)):=g1;have st:=λfr=>La (P:=P) (aj:=aj) (cQ:=cN P aj (n+3)) (z:=z) (fr:=fr) GF;have b3:=λfr as=>tm (P:=P) (aj:=aj) (cQ:=cN P aj (n+3)) (z:=z) (fr:=fr) (os:=c9) (o:=.ref S.i) (as:=as) (jc (M1 P));obtain ⟨h1,f1⟩:=Hi.Nn h k1;have pl:=Q6 ht hmem;refine dD (NR (P:=P) (aj:=aj) (n:=n) (nm:=p.2) (ps:=rU bV t p.2) (k:=k) h1 h0 (hz.step f1) (hs.less (ai (ar (congrArg (· +1) (cF _ _))) (bE (qi (iZ (df 2 pl)) rfl) _))) λn=>Gf _ (by rw [aH];exact pl)) λdc S2 e2 h2 f2 l2 s2=>?_;refine ⟨dc,S2,?_,h2,f1.trans f2,l2,s2⟩;(delta kn;with_reducible repeat' (first|apply hf1|apply hf2|apply b1|(apply bW;focus exact WN)|apply i2|apply i1|apply s1|apply e1|apply st|(apply gE;apply b3)|apply e2|exact dR _ _ _|exact br|apply bt|apply bq|apply bG|apply bO|exact aE|apply av (by decide)|exact bb|apply bh (by decide)|exact aI|apply aO|exact bA|(apply b8;apply bX)|(apply bW;focus rfl)|rfl))
theorem Q7(ht:Tx t):∀(ps:List (Nat × Str)) (k:Nat) (S:Sr) (fr:eB) (os:List O),(∀p∈ps,p∈Jz)->gy os S->S.rd=ae->Bj z os S->Sz S (k+20*ps.length)->tx∉idx S->os[tx]? =af (.list (BB t))->getF fr "sorter" =af (.ref S.i)->getF fr "texts" =af (.ref tx)->
  ∃et os' S',fU (λv=>kn (cy P aj (n+3)) v) (ps.map λp=>bD p.1) z ⟨fr,os⟩=af (.next,⟨et,os'⟩)/\gy os' S'/\mx os S os' S'/\Lk S S' (gn bV t (ps.map (·.2)) (S.dj.map nv))/\Sz S' k/\getF et "sorter" =af (.ref S.i)/\getF et "texts" =af (.ref tx):=by
 intro ps;induction ps with
 |nil=>exact λk S fr os _ h _ _ hs _ _ h1 h2=>⟨fr,os,S,rfl,h,.refl,⟨rfl,rfl,rfl,rfl,rfl⟩,hs,h1,h2⟩
 |cons p ps ih=>
  intro k S fr os hp h h0 hz hs XU oR hf1 hf2;rw [aU] at hs;refine dD (WO (P:=P) (aj:=aj) (z:=z) (n:=n) (k:=k+20*ps.length) ht (hp p (fm ..)) h h0 hz (hs.less (ax _)) oR hf1 hf2) λc9 S1 e1 h1 f1 l1 s1=>?_;have OQ:=(f1.keep tx (aY oR) XU).trans oR;refine dy (ih k S1 (putF fr "i" (.int p.1)) c9 (λq hq=>hp q (i8 _ hq)) h1 (l1.rd.trans h0) (hz.step f1) s1 (λq=>(f1.idx tx q).elim XU λq=>absurd (aY oR) (cD.mpr q)) OQ (av (by decide) (by rw [l1.i];exact hf1)) (av (by decide) hf2)) λet dc S2 e2 h2 f2 l2 s2 r'1=>?_;refine d7 r'1 λa1 a2=>?_;refine ⟨et,dc,S2,?_,h2,f1.trans f2,⟨l2.i.trans l1.i,l2.rd.trans l1.rd,l2.po.trans l1.po,l2.fi.trans l1.fi,?_⟩,s2,by rw [←l1.i];exact a1,a2⟩
  ·rw [bx];exact (ij (turn:=λv=>kn (cy P aj (n+3)) v) e1).trans e2
  ·rw [l2.nv,l1.nv];rfl
theorem Sb(h:Tx t)(k:Nat):∀x∈bV,(∀y∈ub bV t k x,Sg y)/\(ub bV t k x).length<=9^k:=by
 induction k with
 |zero=>exact λx hx=>⟨λy hy=>by rw [aL.mp hy];exact nF hx,ax _⟩
 |succ k ih=>
  intro x hx;rw [←Ee hx];refine ⟨H4 h (ih x hx).1,?_⟩;rw [Nat.pow_succ];exact ai (Ek h _) (ai (df 9 (ih x hx).2) (ar (Nat.mul_comm _ _)))
def rv(t:Str->List Str)(a:Str):Str:=if a∈bV then cZ (ub bV t 4 a) else a
theorem UE(l:List Str):cZ (l.map (rv t))=cZ (l.flatMap λc=>if c∈bV then ub bV t 4 c else [c]):=by
 induction l with
 |nil=>rfl
 |cons a l ih=>
  show rv t a++cZ (l.map (rv t))=_;rw [bz,Ei,ih];congr 1;unfold rv;by_cases h:a∈bV
  ·rw [if_pos h,if_pos h]
  ·rw [if_neg h,if_neg h,Al]
theorem Oh(h:u6 bV t 4 x=ao):cZ ((t x).map (rv t))=cZ (ub bV t 4 x):=by
 rw [UE];show cZ (ub bV t 5 x)=_;rw [Jv h 5 (ak rfl)]
theorem JC(h:x∈l):lookE (EV t l) x=af (.str (cZ (ub bV t 4 x))):=by
 induction l with
 |nil=>exact absurd h aV
 |cons a l ih=>
  show (if a=x then _ else lookE (EV t l) x)=_;by_cases q:a=x
  ·rw [if_pos q,q]
  ·rw [if_neg q];exact ih ((jJ h).resolve_left λe=>q e.symm)
theorem WQ(h:Tx t){vd:Nat}(hx:x∈bV)(hd:os[vd]? =af (.dict es))(he:∀p∈rU bV t x,lookE es p=af (.str (cZ (ub bV t 4 p))))(hz:∀j∈z,j<os.length)(hf:getF fr "values" =af (.ref vd)):
  ∃os',fg (λfr=>fh [(ah "values",getF fr "values")]) (λuq i src=>te (cx P aj cQ ao) uq i src) ⟨(t x).map .str,ae⟩ z ⟨fr,os⟩=af (.ref os.length,⟨fr,os'⟩)/\os'[os.length]? =af (.list (((t x).map (rv t)).map .str))/\Hi os.length os os':=by
 have h9:=h.len x hx;refine cO (iV (fr:=fr) (os:=os) (z:=z) (ups:=λfr=>fh [(ah "values",getF fr "values")]) (body:=λuq i src=>te (cx P aj cQ ao) uq i src) (turn:=λuq i v=>oy (cx P aj cQ ao) uq i v) (fz:=none) (iv:=bc) (f:=λa=>[bc (rv t a)]) (l:=t x) (λ_ _ _=>rfl) hz (λ_ h=>by injection h) (by rw [pK];exact ai h9 (ak rfl))
  (λz' hz' a ha iz c9 xs h1 h2 hN=>by
   have hd1:=h1.at (aY hd) hd;have hacc:os.length∉z':=λq=>aX _ (hz' _ q);have c1:=λ(c:Cx) (s:eP)=>Bz (c:=c) (z:=z') (s:=s) (h.sg x hx a ha);have hu:getF (fh [(ah "values",getF fr "values")]) "values" =af (.ref vd):=by rw [hf];exact bb
   have l2:=λs=>iL (z:=z') (s:=s) hu;have p1:=λ(c:Cx) fr=>g8 (c:=c) h2 hacc hN (.str (rv t a)) fr;refine ⟨putF iz "sign" (.str a),c9.set os.length (.list (xs++ [.str (rv t a)])),?_,dA h2,h1.trans (Hi.set (ax _) _)⟩;by_cases q:a∈bV
   ·rw [decide_eq_true q] at c1;have i1:=λ(c:Cx) fr=>y5 (c:=c) (z:=z') (fr:=fr) hd1 (he a (bL.mpr ⟨ha,decide_eq_true q⟩));have e2:rv t a=cZ (ub bV t 4 a):=if_pos q;rw [e2] at p1 ⊢;(delta oy;with_reducible repeat' (first|apply c1|apply l2|apply i1|apply p1|exact dR _ _ _|exact br|apply bt|apply bq|apply bG|apply bO|exact aE|apply av (by decide)|exact bb|apply bh (by decide)|exact aI|apply aO|exact bA|(apply b8;apply bX)|(apply bW;focus rfl)|rfl))
   ·rw [decide_eq_false q] at c1;have e2:rv t a=a:=if_neg q;rw [e2] at p1 ⊢;(delta oy;with_reducible repeat' (first|apply c1|apply p1|(apply ite_no;focus exact bj)|exact dR _ _ _|exact br|apply bt|apply bq|apply bG|apply bO|exact aE|apply av (by decide)|exact bb|apply bh (by decide)|exact aI|apply aO|exact bA|(apply b8;apply bX)|(apply bW;focus rfl)|rfl)))) λos' e g1 g2=>?_
 exact ⟨os',e,by rw [g1,pL,dw];rfl,g2⟩
def Y8(k:Str):Prop:=k≠ah "name" /\k≠ah "text"
theorem Oi(h:Tx t){vd:Nat}(X9:vd∉z)(htv:tx≠vd):∀(m l:List Str) (fr:eB) (os:List O),(∀x∈m,x∈bV/\u6 bV t 4 x=ao/\∀p∈rU bV t x,p∈l)->(l++m).Nodup->(l++m).length<=1000->(∀j∈z,j<os.length)->os[tx]? =af (.list (BB t))->os[vd]? =af (.dict (EV t l))->getF fr "texts" =af (.ref tx)->getF fr "values" =af (.ref vd)->
  ∃et os',fU (λv=>ko (cx P aj cQ ao) v) (m.map .str) z ⟨fr,os⟩=af (.next,⟨et,os'⟩)/\os.length<=os'.length/\(∀j,j<os.length->j≠vd->os'[j]? =os[j]?)/\os'[vd]? =af (.dict (EV t (l++m)))/\(∀k,Y8 k->getF et k=getF fr k):=by
 intro m;induction m with
 |nil=>exact λl fr os _ _ _ _ _ h1 _ _=>⟨fr,os,rfl,ax _,λ_ _ _=>rfl,by rw [bB];exact h1,λ_ _=>rfl⟩
 |cons x m ih=>
  intro l fr os hm nd hl hz oR hd hf1 hf2;obtain ⟨hx,hok,hpr⟩:=hm x (fm ..);obtain ⟨kx,hkx⟩:=NY hx;have Yc:x∉l:=λq=>(bo.mp nd).2.2 x q x (fm ..) rfl;have m1:=λ(c:Cx) fr=>rr (c:=c) (z:=z) (fr:=fr) (os:=os) (x:=ah "abcd") za;have s1:=λ(c:Cx) (s:eP)=>BA (c:=c) (z:=z) (s:=s) hkx;have i1:=λ(c:Cx) fr=>yb (c:=c) (z:=z) (fr:=fr) (.inl oR) (Ga (t:=t) hkx) BC;have s2:=λfr=>qG (P:=P) (aj:=aj) (cQ:=cQ) (z:=z) (fr:=fr) (os:=os) (h.sg x hx);have m2:=λ(c:Cx) fr=>rr (c:=c) (z:=z) (fr:=fr) (os:=os) (x:=ah "") vI;refine cO (WQ (P:=P) (aj:=aj) (cQ:=cQ) (z:=z) (os:=os) (fr:=putF (putF fr "name" (.str x)) "text" (.str (cZ (t x)))) h hx hd (λp hp=>JC (hpr p hp)) hz (av (by decide) (av (by decide) hf2))) λc9 e1 g1 k1=>?_;have j1:=λ(c:Cx) fr=>zb (c:=c) (z:=z) (fr:=fr) g1 (by
   rw [Oh hok,rW (Sb h 4 x hx).1];have:=(Sb h 4 x hx).2;exact qi this rfl)
  rw [Oh hok] at j1;have YG:=aY hd;have hd1:=k1.at YG hd;have ll:l.length<=999:=by rw [aq,aU] at hl;exact fc (RE hl)
  have u1:=λ(c:Cx) fr=>xY (c:=c) (z:=z) (fr:=fr) (k:=x) (v:=.str (cZ (ub bV t 4 x))) hd1 X9 (by rw [Eo Yc,Ep,aq];simp;exact ai ll (ak rfl));rw [Eo Yc] at u1;have st:ko (cx P aj cQ ao) (.str x) z ⟨fr,os⟩=af (.next,⟨putF (putF fr "name" (.str x)) "text" (.str (cZ (t x))),c9.set vd (.dict (EV t (l++ [x])))⟩):=by
   (delta ko;with_reducible repeat' (first|apply hf1|apply hf2|apply m1|apply s1|apply i1|apply s2|apply m2|apply e1|apply j1|apply u1|exact dR _ _ _|exact br|apply bt|apply bq|apply bG|apply bO|exact aE|apply av (by decide)|exact bb|apply bh (by decide)|exact aI|apply aO|exact bA|(apply b8;apply bX)|(apply bW;focus rfl)|rfl))
  refine dD (ih (l++ [x]) (putF (putF fr "name" (.str x)) "text" (.str (cZ (t x)))) (c9.set vd (.dict (EV t (l++ [x])))) (λy hy=>by
   obtain ⟨q1,q2,q3⟩:=hm y (i8 _ hy);exact ⟨q1,q2,λp hp=>cf _ (q3 p hp)⟩) (by rw [aQ];exact nd) (by rw [aQ];exact hl) (λj hj=>by rw [dI];exact ag (hz j hj) k1.len) (bC (k1.at (aY oR) oR) (λq=>htv q.symm)) (dA hd1) (av (by decide) (av (by decide) hf1)) (av (by decide) (av (by decide) hf2))) λet os' e2 a1 a2 a3 a4=>?_
  rw [dI] at a1 a2;refine ⟨et,os',?_,ai k1.len a1,λj h1 h2=>(a2 j (ag h1 k1.len) h2).trans ((bH λq=>h2 q.symm).trans (k1.keep j h1)),?_,λk hk=>(a4 k hk).trans ?_⟩
  ·rw [bx];exact (ij (turn:=λv=>ko (cx P aj cQ ao) v) st).trans e2
  ·rw [aQ] at a3;exact a3
  ·rw [b6,if_neg hk.2,b6,if_neg hk.1]
theorem Li(l:List Str):AB (l.map .str)=af l:=by
 induction l with
 |nil=>rfl
 |cons a l ih=>
  show (af a).bind (λs=>(AB (l.map .str)).map (s:: ·))=_;rw [ih];rfl
theorem Oj{s:eP}:Pj c "sorted" as z s=Dm c as z s:=by kernel_rfl
theorem Ol{g:Nat}{ss:List Str}(h:os[g]? =af (.tuple (ss.map .str)))(hl:ss.length<64)(hz:os.length∉z):dN (cx P aj cQ ao) (.bi "sorted") [.ref g] z ⟨fr,os⟩=af (.ret (.ref os.length),⟨fr,os++ [.list ((rK ss).map .str)]⟩):=by
 have e:(os++ [cA (ss.map .str)]).set os.length (.list ((rK ss).map .str))=os++ [.list ((rK ss).map .str)]:=by
  rw [ui _ _ (ax _),me];rfl
 rw [←e];refine Nh (Oj.trans ?_);refine (ba (eC h z fr)).trans ((ba (fj (Li ss) z _)).trans ((Bd (a:=alloc (.list (ss.map bc))>>=λr=>ff r.nu λi=>gZ i (.list ((rK ss).map bc))>>=λ_=>aA r) (b:=fail) hl z _).trans ?_));refine (ba (dQ (o:=.list (ss.map bc)) (decide_eq_true (by rw [aH];exact bS (aD hl (ak rfl)))) z fr os)).trans ?_;exact ba (lQ (o:=.list ((rK ss).map bc)) cL (decide_eq_true (by rw [aH,(oZ ss).length_eq];exact bS (aD hl (ak rfl)))) hz fr)
theorem H9:bV.Pairwise leB:=by
 refine CJ ?_;kernel_rfl
theorem JD(hg:((gn bV t bV []).map (·.1)).Nodup)(hk:k<4):rK (lh bV t k).2.2=GL t k:=by
 have hr:=C3 ju hg k;refine rC (le:=leB) (λ_ _ _ _ h h'=>xF h h') (xG _) (H9.sublist iP) ?_;refine (oZ _).trans ((qg hr.nd Ge).mpr λx=>?_);rw [F0 ju hg hk];exact ⟨λ⟨a,b⟩=>bL.mpr ⟨a,decide_eq_true b⟩,λh=>zM h⟩
def Ia(X:Nat->Prop)(os:List O):List V->List (List Str)->Prop
 | [],[]=>True
 |v::vs,l::ls=>(∃i,v= .ref i/\X i/\os[i]? =af (.list (l.map .str)))/\Ia X os vs ls
 |_,_=>False
theorem Ia.keep{X Y:Nat->Prop}(k:∀i,X i->i<os.length->Y i/\os'[i]? =os[i]?):∀{ls:List (List Str)},Ia X os vs ls->Ia Y os' vs ls:=by
 induction vs with
 |nil=>intro ls h;cases ls with|nil=>trivial|cons _ _=>exact h.elim
 |cons v vs ih=>
  intro ls h;cases ls with
  |nil=>exact h.elim
  |cons l ls=>
   obtain ⟨⟨i,e,hb,a⟩,h2⟩:=h;obtain ⟨q1,q2⟩:=k i hb (aY a);exact ⟨⟨i,e,q1,q2.trans a⟩,ih h2⟩
theorem Ia.snoc{X:Nat->Prop}(hb:X i)(hi:os[i]? =af (.list (l.map .str))):∀{ls:List (List Str)},Ia X os vs ls->Ia X os (vs++ [.ref i]) (ls++ [l]):=by
 induction vs with
 |nil=>intro ls h;cases ls with|nil=>exact ⟨⟨i,rfl,hb,hi⟩,trivial⟩|cons _ _=>exact h.elim
 |cons v vs ih=>
  intro ls h;cases ls with
  |nil=>exact h.elim
  |cons l ls=>exact ⟨h.1,ih h.2⟩
theorem Ia.len{X:Nat->Prop}:∀{ls:List (List Str)},Ia X os vs ls->vs.length=ls.length:=by
 induction vs with
 |nil=>intro ls h;cases ls with|nil=>rfl|cons _ _=>exact h.elim
 |cons v vs ih=>
  intro ls h;cases ls with
  |nil=>exact h.elim
  |cons l ls=>exact congrArg (· +1) (ih h.2)
theorem Ia.low{X:Nat->Prop}:∀{ls:List (List Str)},Ia X os vs ls->Am 0 os vs ls:=by
 induction vs with
 |nil=>intro ls h;cases ls with|nil=>trivial|cons _ _=>exact h.elim
 |cons v vs ih=>
  intro ls h;cases ls with
  |nil=>exact h.elim
  |cons l ls=>
   obtain ⟨⟨i,e,hb,a⟩,h2⟩:=h;exact ⟨⟨i,e,eS _,a⟩,ih h2⟩
theorem Om(h:Tx t)(x:Str):(gL bV t x).length<=36:=by
 have:∀l:List Str,(∀i∈l,i∈bV)->(l.flatMap (gT t x)).length<=9*l.length:=by
  intro l;induction l with
  |nil=>exact λ_=>ax _
  |cons a l ih=>
   intro hl;have h1:(gT t x a).length<=9:=by
    unfold gT;rw [aH];exact ai (cK ..) (h.len a (hl a (fm ..)))
   have h2:=ih λi hi=>hl i (i8 _ hi);rw [bz,aq,aU];exact VC h1 h2
 exact this bV λ_ h=>h
theorem UG:∀(ys:List Str) (G:List NV),(∀y∈ys,y∈G.map (·.1))->∀y∈ys,kM (z1 G ys) y= -1:=by
 intro ys;induction ys with
 |nil=>exact λ_ _ y hy=>absurd hy aV
 |cons a ys ih=>
  intro G h y hy;have hG:∀z∈ys,z∈(kI a (-1) G).map (·.1):=λz hz=>by rw [lA];exact h z (i8 _ hz)
  by_cases q:y∈ys
  ·exact ih (kI a (-1) G) hG y q
  ·have e:y=a:=(jJ hy).resolve_right q;subst e;refine ((HZ ys (kI y (-1) G) hG).2 y q).trans ?_;rw [vK (h y (fm ..)),if_pos rfl]
theorem UH(ht:Tx t){G:List NV}{D rl:List Str}(h:RI bV t G D rl):DS (z1 G rl) rl:=by
 have hm:∀y∈rl,y∈G.map (·.1):=λy hy=>(h.nm y).mpr ((h.rd y).mp hy).1;obtain ⟨sm,_⟩:=HZ rl G hm;refine ⟨λy hy=>⟨by rw [sm.nm];exact hm y hy,UG rl G hm y hy⟩,λy hy u hu=>?_,λy hy=>?_⟩
 ·refine cW ((h.rd y).mp hy) λa b _=>?_;rw [sm.ss,h.ss y a] at hu;obtain ⟨c,d⟩:=R9 hu a;exact ⟨by rw [sm.nm];exact (h.nm u).mpr c,λq=>b (((h.rd u).mp q).2.2 y d)⟩
 ·rw [sm.ss,h.ss y ((h.rd y).mp hy).1];exact ai (Om ht y) (by decide)
theorem Sd(h:gy os S)(hr:S.rd=af (r,l))(hf1:getF fr "sorter" =af (.ref S.i)):lN (cy P aj (n+1)) z ⟨fr,os⟩=af (decide (S.fi<S.po)|| !l.isEmpty,⟨fr,os⟩):=by
 have b1:=λfr=>h.D2 (P:=P) (aj:=aj) (cQ:=cN P aj (n+1)) (CV P) (by rfl) fr z ao;have b3:=λfr as=>tm (P:=P) (aj:=aj) (cQ:=cN P aj (n+1)) (z:=z) (fr:=fr) (os:=os) (o:=.ref S.i) (as:=as) (jc (CV P));have a1:=HT (P:=P) (aj:=aj) (z:=z) (n:=n) h hr;(delta lN;with_reducible repeat' (first|apply hf1|apply b1|(apply gE;apply b3)|apply a1|exact dR _ _ _|exact br|apply bt|apply bq|apply bG|apply bO|exact aE|apply av (by decide)|exact bb|apply bh (by decide)|exact aI|apply aO|exact bA|(apply b8;apply bX)|(apply bW;focus rfl)|rfl))
def UI(k:Str):Prop:=k≠ah "name" /\k≠ah "text" /\k≠ah "group"
theorem WR(ht:Tx t)(Yh:((gn bV t bV []).map (·.1)).Nodup){gr vd:Nat}{gs:List V}{ls:List (List Str)}(hk:k<4)(h:gy os S)(hr:S.rd=af (r,(lh bV t k).2.2))(hG:S.dj.map nv=(lh bV t k).1)(hz:Bj z os S)(Ve:gr∉z)(Vf:vd∉z)(Yn:gr∉idx S)(Yo:vd∉idx S)(TK:tx∉idx S)(RA:gr≠vd)(htv:tx≠vd)(htg:tx≠gr)
  (hg:os[gr]? =af (.list gs)) (WS:Ia (λi=>i∉idx S/\i≠gr/\i≠vd) os gs ls) (Vr:gs.length<=1000) (hv:os[vd]? =af (.dict (EV t (lh bV t k).2.1))) (oR:os[tx]? =af (.list (BB t)))
  (hf1:getF fr "sorter" =af (.ref S.i)) (hf2:getF fr "groups" =af (.ref gr)) (JQ:getF fr "values" =af (.ref vd)) (Z9:getF fr "texts" =af (.ref tx)):
  ∃et os' S' gs',oz (cy P aj (n+1)) z ⟨fr,os⟩=af (.next,⟨et,os'⟩)/\gy os' S'/\S'.i=S.i/\S'.rd=af (r,(lh bV t (k+1)).2.2)/\S'.dj.map nv=(lh bV t (k+1)).1/\S'.po-S'.fi=S.po-S.fi/\os.length<=os'.length/\(∀j,j<os.length->j∉idx S->j≠gr->j≠vd->os'[j]? =os[j]?)/\(∀j∈idx S',j∈idx S∨os.length<=j)/\
   gr∉idx S'/\vd∉idx S'/\tx∉idx S'/\os'[gr]? =af (.list gs')/\Ia (λi=>i∉idx S'/\i≠gr/\i≠vd) os' gs' (ls++ [GL t k])/\os'[vd]? =af (.dict (EV t (lh bV t (k+1)).2.1))/\os'[tx]? =af (.list (BB t))/\(∀q,UI q->getF et q=getF fr q):=by
 have ri:=C3 ju Yh k;have Vg:∀y∈(lh bV t k).2.2,y∈bV:=λy hy=>((ri.rd y).mp hy).1;have Yi:(lh bV t k).2.2.length<=4:=jt ri.nd Vg;have d4:(lh bV t k).2.1.length<=4:=jt ri.dn λy hy=>(ri.cl y hy).1;have hnm:∀y∈(lh bV t k).2.2,y∈S.dj.map (·.nm):=λy hy=>by rw [←nG,hG];exact (ri.nm y).mpr (Vg y hy)
 have b1:=λfr=>h.D2 (P:=P) (aj:=aj) (cQ:=cN P aj (n+1)) (FI P) (by rfl) fr z ao;have b2:=λfr as=>tm (P:=P) (aj:=aj) (cQ:=cN P aj (n+1)) (z:=z) (fr:=fr) (os:=os) (o:=.ref S.i) (as:=as) (jc (FI P));refine iB (Nz (P:=P) (aj:=aj) (n:=n) h hr hz hnm (ai Yi (ak rfl))) λc9 Ey e1 t1 h1 f1 tn1 q1=>?_;obtain ⟨S1,U6⟩:∃S1:Sr,S1={S with dj:=Ey,rd:=af (r,[]),po:=S.po+((lh bV t k).2.2.length:Nat)}:=⟨_,rfl⟩;rw [←U6] at h1 f1 tn1;have i1:S1.i=S.i:=by rw [U6]
 have lg:=aY hg;have lv:=aY hv;have lt:=aY oR;have l1:os.length<c9.length:=aY t1;have C9:∀j,j<os.length->j∉idx S->c9[j]? =os[j]? :=f1.keep;have Ls:∀j,j<os.length->j∉idx S->j∉idx S1:=λj hj hn q=>(f1.idx j q).elim hn λq=>absurd hj (cD.mpr q);have gi1:=Ls gr lg Yn;have vi1:=Ls vd lv Yo;have s2:=λfr=>src_tuple (P:=P) (aj:=aj) (cQ:=cN P aj (n+1)) (z:=z) (fr:=fr) t1;refine dD (Oi (P:=P) (aj:=aj) (cQ:=cN P aj (n+1)) (z:=os.length::z) ht (tx:=tx) (vd:=vd) (λq=>by
  rcases jJ q with q|q
  ·exact aX _ (ag lv (ar q.symm))
  ·exact Vf q) htv (lh bV t k).2.2 (lh bV t k).2.1 (putF fr "group" (.ref os.length)) c9 (λx hx=>⟨Vg x hx,NQ.mp (by rw [((F0 ju Yh hk x).mp hx).2];exact hk),((ri.rd x).mp hx).2.2⟩) (bo.mpr ⟨ri.dn,ri.nd,λa ha b hb e=>((ri.rd b).mp hb).2.1 (e▸ha)⟩) (by rw [aq];exact qi (dW d4 Yi) rfl) (λj hj=>by
  rcases jJ hj with rfl|hj
  ·exact l1
  ·exact aD (hz j hj).1 l1) ((C9 tx lt TK).trans oR) ((C9 vd lv Yo).trans hv) (av (by decide) Z9) (av (by decide) JQ)) λkN dc e2 l2 k2 d2 f2=>?_
 have GH:dk (af os.length) (fU (λv=>ko (cy P aj (n+1)) v) ((lh bV t k).2.2.map .str)) z ⟨putF fr "group" (.ref os.length),c9⟩=_:=e2;have h2:gy dc S1:=h1.of_same λj hj=>k2 j (h1.lt j hj) λe=>vi1 (e▸hj);have Yj:dc[os.length]? =af (.tuple ((lh bV t k).2.2.map .str)):=(k2 _ l1 (eM lv)).trans t1;have g2:dc[gr]? =af (.list gs):=(k2 gr (aD lg l1) RA).trans ((C9 gr lg Yn).trans hg);have gf:∀q,UI q->getF kN q=getF fr q:=λq hq=>(f2 q ⟨hq.1,hq.2.1⟩).trans (by rw [b6,if_neg hq.2.2]);have Vy:=(gf _ ⟨by decide,by decide,by decide⟩).trans hf1;have Ye:=(gf _ ⟨by decide,by decide,by decide⟩).trans hf2;have gg:getF kN "group" =af (.ref os.length):=(f2 _ ⟨by decide,by decide⟩).trans aE;have hz2:dc.length∉z:=λq=>aX _ (ag ((hz _ q).1) (bS (ag l1 l2)));have m3:=λ(c:Cx) fr=>k9 (c:=c) (z:=z) (fr:=fr) g2 mJ;have c3:=λfr=>Ol (P:=P) (aj:=aj) (cQ:=cN P aj (n+1)) (z:=z) (fr:=fr) Yj (aW Yi (ak rfl)) hz2;rw [JD Yh hk] at c3;have g3:(dc++ [cA ((GL t k).map .str)])[gr]? =af (.list gs):=bI g2;have p3:=λ(c:Cx) fr=>pG (c:=c) (z:=z) (fr:=fr) (v:=.ref dc.length) g3 Ve (aW Vr (ak rfl));have h3:gy ((dc++ [cA ((GL t k).map .str)]).set gr (.list (gs++ [.ref dc.length]))) S1:=(h2.grow _).other gi1 _;obtain ⟨yg,Gw⟩:∃yg:List O,yg=(dc++ [cA ((GL t k).map .str)]).set gr (.list (gs++ [.ref dc.length])):=⟨_,rfl⟩;rw [←Gw] at h3 p3;have l4:yg.length=dc.length+1:=by rw [Gw,dI,aq];rfl
 have k4:∀j,j<dc.length->j≠gr->yg[j]? =dc[j]? :=λj hj hn=>by rw [Gw];exact (bH λe=>hn e.symm).trans (aJ hj)
 have Zq:Bj z yg S1:=λj hj=>⟨aD (ag (aD ((hz j hj).1) l1) l2) (ar l4.symm),Ls j (hz j hj).1 (hz j hj).2⟩;have b4:=λfr=>h3.D2 (P:=P) (aj:=aj) (cQ:=cN P aj (n+1)) (Jb P) (by rfl) fr z ao;rw [i1] at b4;have b5:=λfr as=>tm (P:=P) (aj:=aj) (cQ:=cN P aj (n+1)) (z:=z) (fr:=fr) (os:=yg) (o:=.ref S.i) (as:=as) (jc (Jb P));have st4:=λfr=>H2 (P:=P) (aj:=aj) (cQ:=cN P aj (n+1)) (z:=z) (fr:=fr) ((k4 _ (ag l1 l2) (eM lg)).trans Yj);have en1:S1.dj.map nv=z1 (lh bV t k).1 (lh bV t k).2.2:=by rw [U6];show Ey.map nv=_;rw [q1,hG]
 have ds:=UH ht ri;rw [←en1] at ds;refine b9 (Lh (P:=P) (aj:=aj) (n:=n) (l:=[]) h3 (by rw [U6]) Zq ri.nd ds (by simp;exact qi (df 100 Yi) rfl) Yi) λEF RB l5 e5 h5 f5 q5=>?_;rw [i1] at e5;rw [en1] at q5;have hq:(RB.map nv,l5)=nU (lh bV t k).1 (lh bV t k).2.2:=q5;have Gx:∀j,j<os.length->j∉idx S->j≠gr->j≠vd->EF[j]? =os[j]? :=λj hj hn a b=>(f5.keep j (aD (ag (aD hj l1) l2) (ar l4.symm)) (Ls j hj hn)).trans ((k4 j (ag (aD hj l1) l2) a).trans ((k2 j (aD hj l1) b).trans (C9 j hj hn)));have aad:∀j∈idx {S1 with dj:=RB,rd:=af (r,l5),fi:=S1.fi+((lh bV t k).2.2.length:Nat)},j∈idx S∨os.length<=j:=λj hj=>(f5.idx j hj).elim (f1.idx j) λq=>.inr (bS (ag (aD (ag l1 l2) (ar l4.symm)) q));have Gy:∀j,j<yg.length->j∉idx S1->j∉idx {S1 with dj:=RB,rd:=af (r,l5),fi:=S1.fi+((lh bV t k).2.2.length:Nat)}:=λj hj hn q=>(f5.idx j q).elim hn λq=>absurd hj (cD.mpr q);have g4:yg[gr]? =af (.list (gs++ [.ref dc.length])):=by rw [Gw];exact dA g3
 have n4:dc.length∉idx S1:=λq=>aX _ (ag (h1.lt _ q) l2);refine ⟨kN,EF,_,gs++ [.ref dc.length],?_,h5,i1,?_,?_,?_,ai (bS (aD (ag l1 l2) (ar l4.symm))) f5.len,Gx,aad,Gy gr (aD (ag (aD lg l1) l2) (ar l4.symm)) gi1,Gy vd (aD (ag (aD lv l1) l2) (ar l4.symm)) vi1,Gy tx (aD (ag (aD lt l1) l2) (ar l4.symm)) (Ls tx lt TK),(f5.keep gr (aD (ag (aD lg l1) l2) (ar l4.symm)) gi1).trans g4,?_,?_,(Gx tx lt TK htg htv).trans oR,gf⟩
 ·rw [Gw] at b4 st4 b5 e5;rw [Gw] at p3;(delta oz;with_reducible repeat' (first|apply hf1|apply b1|(apply gE;apply b2)|apply e1|apply s2|apply GH|apply Vy|apply Ye|apply gg|apply m3|apply c3|apply p3|apply b4|(apply bW;focus exact UD)|apply st4|(apply gE;apply b5)|apply e5|exact dR _ _ _|exact br|apply bt|apply bq|apply bG|apply bO|exact aE|apply av (by decide)|exact bb|apply bh (by decide)|exact aI|apply aO|exact bA|(apply b8;apply bX)|(apply bW;focus rfl)|rfl))
 ·show af (r,l5)=af (r,(nU _ _).2);rw [←hq]
 ·show RB.map nv=(nU _ _).1;rw [←hq]
 ·show S1.po-(S1.fi+_)=_;rw [U6];show S.po+_-(S.fi+_)=_;exact Int.add_sub_add_right _ _ _
 ·refine Ia.snoc ⟨Gy _ (ar l4.symm) n4,eM (ag (aD lg l1) l2),eM (ag (aD lv l1) l2)⟩ ?_ (WS.keep λi ⟨a,b,c⟩ hi=>⟨⟨Gy i (aD (ag (aD hi l1) l2) (ar l4.symm)) (Ls i hi a),b,c⟩,Gx i hi a b c⟩);refine (f5.keep _ (ar l4.symm) n4).trans ?_;rw [Gw];exact bC cL (bP (ag (aD lg l1) l2))
 ·refine (f5.keep vd (aD (ag (aD lv l1) l2) (ar l4.symm)) vi1).trans ((k4 vd (ag (aD lv l1) l2) (λe=>RA e.symm)).trans ?_);exact d2
structure LS(t:Str->List Str)(z:List Nat)(gr vd tx r k:Nat)(fr:eB)(os:List O)(S:Sr)(gs:List V)(ls:List (List Str)):Prop where
 h:gy os S
 hr:S.rd=af (r,(lh bV t k).2.2)
 hG:S.dj.map nv=(lh bV t k).1
 pf:S.po-S.fi=0
 hz:Bj z os S
 Yn:gr∉idx S
 Yo:vd∉idx S
 TK:tx∉idx S
 hg:os[gr]? =af (.list gs)
 WS:Ia (λi=>i∉idx S/\i≠gr/\i≠vd) os gs ls
 Vr:gs.length<=k
 hv:os[vd]? =af (.dict (EV t (lh bV t k).2.1))
 oR:os[tx]? =af (.list (BB t))
 f1:getF fr "sorter" =af (.ref S.i)
 f2:getF fr "groups" =af (.ref gr)
 f3:getF fr "values" =af (.ref vd)
 f4:getF fr "texts" =af (.ref tx)
theorem Q8(ht:Tx t)(Yh:((gn bV t bV []).map (·.1)).Nodup){gr vd K:Nat}(hK:K<=4)(hne:∀k,k<K->(lh bV t k).2.2≠ [])(SG:(lh bV t K).2.2= [])(Ve:gr∉z)(Vf:vd∉z)(RA:gr≠vd)(htv:tx≠vd)(htg:tx≠gr):∀(m k N:Nat) (fr:eB) (os:List O) (S:Sr) (gs:List V) (ls:List (List Str)),k+m=K->m+1<=N->LS t z gr vd tx r k fr os S gs ls->
  ∃et os' gs',hU (lN (cy P aj (n+1))) (oz (cy P aj (n+1))) (aA bp) N z ⟨fr,os⟩=af (.next,⟨et,os'⟩)/\os.length<=os'.length/\(∀j,j<os.length->j∉idx S->j≠gr->j≠vd->os'[j]? =os[j]?)/\os'[gr]? =af (.list gs')/\Am 0 os' gs' (ls++(cb k m).map (GL t))/\os'[vd]? =af (.dict (EV t (lh bV t K).2.1))/\(∀q,UI q->getF et q=getF fr q):=by
 intro m;induction m with
 |zero=>
  intro k N fr os S gs ls hk hN s;obtain rfl:k=K:=hk;obtain ⟨N,rfl⟩:∃i,N=i+1:=⟨N-1,(gh hN).symm⟩;have t1:=Sd (P:=P) (aj:=aj) (z:=z) (n:=n) s.h s.hr s.f1;have pf:=s.pf;rw [SG,show decide (S.fi<S.po)=bf from decide_eq_false (mO.mpr (oC (gJ.mp pf)))] at t1;exact ⟨fr,os,gs,HP (test:=lN (cy P aj (n+1))) t1 (orelse:=aA bp) rfl rfl,ax _,λ_ _ _ _ _=>rfl,s.hg,by rw [List.range'_zero,yC,bB];exact s.WS.low,s.hv,λ_ _=>rfl⟩
 |succ m ih=>
  intro k N fr os S gs ls hk hN s;obtain ⟨N,rfl⟩:∃i,N=i+1:=⟨N-1,(gh (sI hN)).symm⟩;have t1:=Sd (P:=P) (aj:=aj) (z:=z) (n:=n) s.h s.hr s.f1;have ht1:(decide (S.fi<S.po)|| !(lh bV t k).2.2.isEmpty)=ao:=by
   have:=hne k (Vk hk);cases q:(lh bV t k).2.2 with
   |nil=>exact absurd q this
   |cons a l=>simp
  rw [ht1] at t1;refine kh (WR (P:=P) (aj:=aj) (z:=z) (n:=n) ht Yh (k:=k) (ag (Vk hk) hK) s.h s.hr s.hG s.hz Ve Vf s.Yn s.Yo s.TK RA htv htg s.hg s.WS (ai (ai (ai (s.Vr) (cM hk)) hK) (ak rfl)) s.hv s.oR s.f1 s.f2 s.f3 s.f4) λiz c9 S1 Vy e1 h1 i1 r1 G1 r'1=>?_;refine iQ r'1 λp1 l1 k1 x1 a1 r'2=>?_;refine iQ r'2 λa2 a3 g1 X1 v1 r'3=>?_;refine d7 r'3 λy1 f1=>?_;have gl1:=X1.len;have gl0:=s.WS.len;have s1:LS t z gr vd tx r (k+1) iz c9 S1 Vy (ls++ [GL t k]):=⟨h1,r1,G1,p1.trans s.pf,λj hj=>⟨ag (s.hz j hj).1 l1,λq=>(x1 j q).elim (s.hz j hj).2 λq=>absurd (s.hz j hj).1 (cD.mpr q)⟩,a1,a2,a3,g1,X1,by rw [gl1,aq,←gl0];have:=s.Vr;simp;exact this,v1,y1,by rw [i1];exact (f1 _ ⟨by decide,by decide,by decide⟩).trans s.f1,(f1 _ ⟨by decide,by decide,by decide⟩).trans s.f2,(f1 _ ⟨by decide,by decide,by decide⟩).trans s.f3,(f1 _ ⟨by decide,by decide,by decide⟩).trans s.f4⟩;refine dy (ih (k+1) N iz c9 S1 Vy (ls++ [GL t k]) ((aN _ _ _).trans hk) (fc hN) s1) λkN dc Ye e2 l2 k2 g2 X2 r'4=>?_;refine d7 r'4 λv2 f2=>?_;refine ⟨kN,dc,Ye,(x4 t1 e1).trans e2,ai l1 l2,λj b1 b2 b3 b4=>(k2 j (ag b1 l1) (λq=>(x1 j q).elim b2 λq=>absurd b1 (cD.mpr q)) b3 b4).trans (k1 j b1 b2 b3 b4),g2,?_,v2,λq hq=>(f2 q hq).trans (f1 q hq)⟩;rw [ku,bx];rw [aQ] at X2;exact X2
theorem j7:((gn bV t bV []).map (·.1)).Nodup:=by
 have key:∀(is:List Str) (l:List NV),(l.map (·.1)).Nodup->((gn bV t is l).map (·.1)).Nodup:=by
  intro is;induction is with
  |nil=>exact λl h=>h
  |cons i is ih=>
   intro l h;refine ih _ ?_;have ens:∀(l:List NV) (nm:Str),(l.map (·.1)).Nodup->((pH l nm).map (·.1)).Nodup:=λl nm h=>by
    unfold pH;by_cases q:nm∈l.map (·.1)
    ·rw [if_pos q];exact h
    ·rw [if_neg q,cw];exact bo.mpr ⟨h,bu.mpr ⟨aV,dz⟩,λa ha b hb e=>q (by have e2:b=nm:=aL.mp hb;rw [←e2,←e];exact ha)⟩
   have ps:∀(ps:List Str) (l:List NV),(l.map (·.1)).Nodup->((FY i l ps).map (·.1)).Nodup:=by
    intro ps;induction ps with
    |nil=>exact λl h=>h
    |cons a ps ih=>exact λl h=>ih _ (by rw [mL a (tX i) (λ_=>rfl)];exact ens l a h)
   exact ps _ _ (by rw [mL i (O2 _) (λ_=>rfl)];exact ens l i h)
 exact key bV [] dz
theorem zc{p:Str->Bool}(l:List Str):l.find? p=(l.filter p).head?:=by
 induction l with
 |nil=>rfl
 |cons a l ih=>
  cases q:p a with
  |true=>rw [mi q,cu q];rfl
  |false=>rw [jm (by simp [q]),b7 (by simp [q])];exact ih
theorem Oo(ht:Tx t):findP (gL bV t) 200 ((gn bV t bV []).map (·.1)) []=af (nV t):=by
 have hw:wt (gL bV t) bV []<=144:=by
  unfold wt;have:∀l:List Str,(l.map λx=>(gL bV t x).length).sum<=36*l.length:=by
   intro l;induction l with
   |nil=>exact ax _
   |cons a l ih=>rw [bx,jF,aU];have:=Om ht a;exact VC this ih
  have h1:=this (bV.filter λx=>decide (x∉ []));have h2:=cK (λx=>decide (x∉([]:List Str))) bV;have h3:bV.length=4:=rfl;exact ai h1 (df 36 (ai h2 (ar h3)))
 have hL:=u9 (t:=t) (k:=4);rw [K4 ju (n:=4) (ax _) (N:=200) (qi (dW (bE hL 2) hw) rfl) λy hy=>lE.mp hy,HX];unfold nV;congr 2;rw [yC,dS,zc,v9];unfold Ld;congr 2
 funext i
 by_cases q:i∈cH bV t 4
 ·rw [cu (by simpa using q),cu (by simpa using q)];congr 1;unfold rU;rw [qd];exact jT λs _=>by
   by_cases w:s∈cH bV t 4
   ·simp [w,nh s w]
   ·simp [w]
 ·rw [b7 (by simpa using q),b7 (by simpa using q)];unfold rU;rw [qd];exact jT λs _=>by
   by_cases w:s∈cH bV t 4
   ·simp [w,nh s w]
   ·simp [w]
theorem Oq{nx:Str->Str}:∀(m:Nat) (p:List Str) (y:Str),qE nx m p y= []->p.Nodup->(∀x∈p,x∈cH bV t 4)->y∈cH bV t 4->(∀x∈cH bV t 4,nx x∈cH bV t 4)->p.length+m<=(cH bV t 4).length:=by
 intro m;induction m with
 |zero=>exact λp y _ nd hp _ _=>jt nd hp
 |succ m ih=>
  intro p y e nd hp hy hn;have er:qE nx (m+1) p y=if y∈p then pJ p y else qE nx m (p++ [y]) (nx y):=rfl
  rw [er] at e;by_cases q:y∈p
  ·rw [if_pos q] at e;exact absurd e (by unfold pJ;simp)
  ·rw [if_neg q] at e;have:=ih (p++ [y]) (nx y) e (bo.mpr ⟨nd,bu.mpr ⟨aV,dz⟩,λa ha b hb e=>q (by rw [←aL.mp hb,←e];exact ha)⟩) (λx hx=>by
    rcases aG.mp hx with hx|hx
    ·exact hp x hx
    ·rw [aL.mp hx];exact hy) (hn y hy) hn
   rw [aq,fT] at this;exact ai (ar (aN _ _ 1)) this
theorem UJ:∀ring,nV t=af ring->ring≠ []:=λring h e=>by
 subst e;unfold nV at h;refine lmap h λy hy e=>?_;have:=Oq (t:=t) _ _ _ e dz (λ_ h=>absurd h aV) (En (mE hy)) λx hx=>by
  refine ck (Ju (na:=bV) (t:=t) (n:=4) (ax _) x hx) λ_ _ _ _ h3=>?_;exact h3
 simp at this;exact aX _ this
theorem Q9:ka (Kw P) (.ref 229)=ao:=by kernel_rfl
theorem Cl.of(ht:Tx t)(h:gy os S)(e:S.dj.map nv=gn bV t bV []):Cl S (gL bV t):=by
 have hm:∀x∈S.dj,x.nm∈bV:=λx hx=>lE.mp (by rw [←e,nG];exact aT.mpr ⟨x,hx,rfl⟩);have hs:∀x∈S.dj,gL bV t x.nm=x.ss:=λx hx=>by
  rw [←Nx h.names hx,e,(Bu (hm x hx) bV [] ju).1];rfl
 refine ⟨hs,λx hx y hy=>?_,?_⟩
 ·rw [←hs x hx] at hy;rw [←nG,e];exact lE.mpr (bL.mp (Ec.mp hy)).1
 ·have:=jt h.names λa ha=>by
   refine aR (aT.mp ha) λx hx q'1=>?_;obtain rfl:=q'1;exact hm x hx
  rw [aH] at this;exact ai this (by decide)
theorem Ot(ht:Tx t)(hz:∀j∈z,j<os.length)(oR:os[tx]? =af (.list (BB t))):
  ∃os' d K,cN P aj (n+4) (.top 234) [.ref tx] os z=af (.ret d,os')/\Hi os.length os os'/\K<=4/\(∀k,k<K->(lh bV t k).2.2≠ [])/\(lh bV t K).2.2= []/\H7 os' d (nV t) ((cb 0 K).map (GL t)) (EV t (lh bV t K).2.1):=by
 rw [Fv];have Lr:=aY oR;have c0:=λfr as=>gW (P:=P) (aj:=aj) (cQ:=cN P aj (n+3)) (z:=z) (fr:=fr) (os:=os) (as:=as) Qw;have e0:=QM (P:=P) (aj:=aj) (n:=n+2) (z:=z) (os:=os) hz;obtain ⟨Lz,RC⟩:∃Lz:List O,Lz=os++ [.ns (uZ (os.length+2) .none 0 0),.inst 137 os.length,.dict []]:=⟨_,rfl⟩;have h0:gy Lz (F4 os.length):=by rw [RC];exact QN
 rw [←RC] at e0;have l0:Lz.length=os.length+3:=by rw [RC,aq];rfl
 have hk0:Hi os.length os Lz:=by rw [RC];exact Hi.grow (ax _) _
 have RD:∀j,j<os.length->j∉idx (F4 os.length):=λj hj q=>by
  simp only [idx,F4,Ck,aZ,dS,kz,aV,or_false] at q;exact absurd hj (cD.mpr (q.elim (λq=>q▸lF _) λq=>q.elim (λq=>q▸ax _) λq=>q▸aF _ 2))
 have r1:=λfr=>wZ (P:=P) (aj:=aj) (cQ:=cN P aj (n+3)) (z:=z) (fr:=fr) (os:=Lz);have s1:=λfr=>H3 (P:=P) (aj:=aj) (cQ:=cN P aj (n+3)) (z:=z) (fr:=fr) (cL:(Lz++ [dB 0 4 1])[Lz.length]? =af (.range 0 4 1));have hz0:Bj z (Lz++ [.range 0 4 1]) (F4 os.length):=λj hj=>⟨by rw [aq];have:=hz j hj;exact ag (ag this (cM l0.symm)) (aF _ _),RD j (hz j hj)⟩;refine dy (Q7 (P:=P) (aj:=aj) (z:=z) (n:=n) ht (tx:=tx) Jz 0 (F4 os.length) [(ah "texts",.ref tx),(ah "sorter",.ref (os.length+1))] (Lz++ [.range 0 4 1]) (λ_ h=>h) (h0.grow _) rfl hz0 ⟨by show 0+_<=900;decide,λx hx=>absurd hx aV⟩ (RD tx Lr) (bI (hk0.at Lr oR)) (bh (by decide) bb) bb) λiz c9 S1 e1 h1 f1 q1 s1' r'2=>?_;refine d7 r'2 λa1 a2=>?_;have Vw:dk ae (fU (λv=>kn (cy P aj (n+3)) v) ((cb 0 4).map λ(i:Nat)=>bD i)) z ⟨[("texts",.ref tx),("sorter",.ref (os.length+1))],Lz++ [.range 0 4 1]⟩=_:=e1;have en:S1.dj.map nv=gn bV t bV []:=q1.nv;replace a1:getF iz "sorter" =af (.ref (os.length+1)):=a1;have i1:S1.i=os.length+1:=q1.i;have rd1:S1.rd=ae:=q1.rd;have pf1:S1.po-S1.fi=0:=by rw [q1.po,q1.fi];rfl
 have L0:(Lz++ [dB 0 4 1]).length=os.length+4:=by rw [aq,l0];rfl
 have l1:=f1.len;have C9:∀j,j<os.length->c9[j]? =os[j]? :=λj hj=>(f1.keep j (ag hj (cM L0.symm)) (RD j hj)).trans ((aJ (ag hj (cM l0.symm))).trans (hk0.keep j hj));have Gz:∀j,j<os.length->j∉idx S1:=λj hj q=>(f1.idx j q).elim (RD j hj) λq=>aX _ (ag hj (ai (cM L0.symm) q));have cl:=Cl.of ht h1 en;have hr:findP (gL bV t) 200 (S1.dj.map (·.nm)) []=af (nV t):=by rw [←nG,en];exact Oo ht
 have b2:=λfr=>h1.D2 (P:=P) (aj:=aj) (cQ:=cN P aj (n+3)) (xV P) (by rfl) fr z ao;rw [i1] at b2;have b2':=λfr as=>tm (P:=P) (aj:=aj) (cQ:=cN P aj (n+3)) (z:=z) (fr:=fr) (os:=c9) (o:=.ref (os.length+1)) (as:=as) (jc (xV P));refine ck (FT (P:=P) (aj:=aj) (z:=z) (m:=n+2) h1 cl (λj hj=>ag (ag (hz j hj) (cM L0.symm)) l1) (ax 200) hr) λdc v1 e2 k2 r2=>?_;rw [i1] at e2;have l2:=k2.len;obtain ⟨h2,f2⟩:=Hi.Nn h1 k2;have hz2:Bj z dc S1:=λj hj=>⟨ag (ag (ag (hz j hj) (cM L0.symm)) l1) l2,Gz j (hz j hj)⟩;refine b9 (Ef (P:=P) (aj:=aj) (z:=z) (m:=n) h2 rd1 cl hz2 (ax 200) hr UJ) λiI v2 rd e3 p3 h3 f3=>?_;rw [i1] at e3;have c3:=λfr as=>gW (P:=P) (aj:=aj) (cQ:=cN P aj (n+3)) (z:=z) (fr:=fr) (os:=dc) (as:=as) Q9;have l3:=f3.len;obtain ⟨S2,Yk⟩:∃S2:Sr,S2={S1 with rd:=af (rd,gm (S1.dj.map nv))}:=⟨_,rfl⟩;rw [←Yk] at h3 f3 p3;have JR:∀j,j<dc.length->j∉idx S1->j∉idx S2:=λj hj hn q=>(f3.idx j q).elim hn λq=>aX _ (ag hj q);have a4:=λfr=>dQ (o:=.list []) rfl z fr iI;have a5:=λfr=>dQ (o:=.dict []) rfl z fr (iI++ [.list []]);have L4:(iI++ [cA []]).length=iI.length+1:=by rw [aq];rfl
 rw [L4] at a5;have L5:(iI++ [cA []]++ [qf []]).length=iI.length+2:=by rw [aq,L4];rfl
 have big:∀j,iI.length<=j->j∉idx S2:=λj hj q=>aX _ (ag (h3.lt j q) hj);refine cO (QL (na:=bV) (t:=t) ju j7 (ax _)) λK hK hne SG=>?_;have YJ:(iI++ [cA []]++ [qf []])[iI.length+1]? =af (.dict (EV t (lh bV t 0).2.1)):=by
  have:(iI++ [cA []]++ [qf []])[(iI++ [cA []]).length]? =af (.dict []):=cL;rw [L4] at this;exact this
 have SH:∀j,j<os.length->iI[j]? =os[j]? :=λj hj=>(f3.keep j (ag (ag (ag hj (cM L0.symm)) l1) l2) (Gz j hj)).trans ((k2.keep j (ag (ag hj (cM L0.symm)) l1)).trans (C9 j hj));have gfr:∀q,q≠ah "ring" ->q≠ah "prepared" ->q≠ah "groups" ->q≠ah "values" ->getF (putF (putF (putF (putF iz "ring" v1) "prepared" v2) "groups" (.ref iI.length)) "values" (.ref (iI.length+1))) q=getF iz q:=λq h1 h2 h3 h4=>by
  rw [b6,if_neg h4,b6,if_neg h3,b6,if_neg h2,b6,if_neg h1]
 have ls:LS t z iI.length (iI.length+1) tx rd 0 (putF (putF (putF (putF iz "ring" v1) "prepared" v2) "groups" (.ref iI.length)) "values" (.ref (iI.length+1))) (iI++ [.list []]++ [.dict []]) S2 [] []:=by
  refine ⟨(h3.grow _).grow _,by rw [Yk,en];rfl,by rw [Yk];exact en,by rw [Yk];exact pf1,λj hj=>⟨ag (ag (ag (ag (ag (hz j hj) (cM L0.symm)) l1) l2) l3) (cM L5.symm),JR j (ag (ag (ag (hz j hj) (cM L0.symm)) l1) l2) (Gz j (hz j hj))⟩,big _ (ax _),big _ (lF _),JR tx (ag (ag (ag Lr (cM L0.symm)) l1) l2) (Gz tx Lr),bI cL,trivial,ax _,YJ,bI (bI ((SH tx Lr).trans oR)),?_,av (by decide) aE,aE,(gfr _ (by decide) (by decide) (by decide) (by decide)).trans a2⟩;rw [Yk];show getF _ _=af (.ref S1.i);rw [i1];exact (gfr _ (by decide) (by decide) (by decide) (by decide)).trans a1
 refine dy (Q8 (P:=P) (aj:=aj) (z:=z) (n:=n+2) ht j7 hK hne SG (λq=>aX _ (ag (hz _ q) (ai (ai (ai (cM L0.symm) l1) l2) l3))) (λq=>aX _ (ag (jh (hz _ q)) (ai (ai (ai (cM L0.symm) l1) l2) l3))) (bP (bU _)) (bP (aD (ag (ag (ag (ag Lr (cM L0.symm)) l1) l2) l3) (bU _))) (bP (ag (ag (ag (ag Lr (cM L0.symm)) l1) l2) l3)) K 0 200 _ _ S2 [] [] (fH _) (aW hK (ak rfl)) ls) λOT sL YI e6 l6 k6 g6 X6 r'3=>?_;refine d7 r'3 λv6 f6=>?_;rw [L5] at l6 k6;have Gx:∀j,j<iI.length->j∉idx S2->sL[j]? =iI[j]? :=λj hj hn=>(k6 j (ag hj (aF _ _)) hn (bP hj) (bP (aD hj (bU _)))).trans ((aJ (aD hj (ar L4.symm))).trans (aJ hj));have y1:getF OT "ring" =af v1:=(f6 _ ⟨by decide,by decide,by decide⟩).trans (av (by decide) (av (by decide) (av (by decide) aE)));have y2:getF OT "prepared" =af v2:=(f6 _ ⟨by decide,by decide,by decide⟩).trans (av (by decide) (av (by decide) aE));have y3:getF OT "groups" =af (.ref iI.length):=(f6 _ ⟨by decide,by decide,by decide⟩).trans (av (by decide) aE);have y4:getF OT "values" =af (.ref (iI.length+1)):=(f6 _ ⟨by decide,by decide,by decide⟩).trans aE;have a7:=λfr=>dQ (o:=.tuple [v1,v2,.ref iI.length,.ref (iI.length+1)]) rfl z fr sL;have SD:Hi os.length os sL:=⟨ai (ai (ai (ai (cM L0.symm) l1) l2) l3) (dY l6),λj hj=>(Gx j (ag (ag (ag (ag hj (cM L0.symm)) l1) l2) l3) (JR j (ag (ag (ag hj (cM L0.symm)) l1) l2) (Gz j hj))).trans (SH j hj)⟩;have k7:∀j,j<sL.length->(sL++ [jk [v1,v2,.ref iI.length,.ref (iI.length+1)]])[j]? =sL[j]? :=λj hj=>aJ hj;refine ⟨sL++ [.tuple [v1,v2,.ref iI.length,.ref (iI.length+1)]],.ref sL.length,K,gz (fr:=OT) ?_,SD.trans (Hi.grow SD.len _),hK,hne,SG,sL.length,v1,v2,iI.length,iI.length+1,YI,rfl,cL,?_,?_,bI g6,X6.keep λi _ hi=>k7 i hi,bI v6⟩
 ·(delta Ba wo wm wk wj wi wh wg;with_reducible repeat' (first|(apply gE;apply c0)|apply e0|apply r1|apply s1|apply Vw|apply a1|apply b2|(apply gE;apply b2')|apply e2|(apply gE;apply c3)|apply e3|apply a4|apply a5|apply e6|apply y1|apply y2|apply y3|apply y4|apply a7|apply fe|exact oB|(apply fP (by decide))|exact dR _ _ _|exact br|apply bt|apply bq|apply bG|apply bO|exact aE|apply av (by decide)|exact bb|apply bh (by decide)|exact aI|apply aO|exact bA|(apply b8;apply bX)|(apply bW;focus rfl)|rfl))
 ·induction hq:nV t using aw with
  |none=>rw [hq] at r2;obtain rfl:v1= .none:=r2;rfl
  |some rg=>
   rw [hq] at r2;refine cO r2 λi q'4 hi hb=>?_;obtain rfl:=q'4;have hlt:=aY hi;have ni:i∉idx S1:=λq=>aX _ (ag (h1.lt i q) hb);exact kq ((k7 i (ag (ag hlt l3) (dY l6))).trans ((Gx i (ag hlt l3) (JR i hlt ni)).trans ((f3.keep i hlt ni).trans hi)))
 ·refine Jw (S':=S2) ?_;induction hq:nV t using aw with
  |none=>rw [hq] at p3;exact p3
  |some rg=>
   rw [hq] at p3;refine dD p3 λu i e b1 b2 b3 b4=>?_;exact ⟨u,i,e,(k7 u (ag (aY b1) (dY l6))).trans ((Gx u (aY b1) b4).trans b1),(k7 i (ag (aY b2) (dY l6))).trans ((Gx i (aY b2) b3).trans b2),b3,b4⟩
theorem vO:∀{n:Nat}{v:V}{d:PyData},eg os n v=af d->eg os (n+1) v=af d:=by
 intro n;induction n with
 |zero=>
  intro v d h;induction v using V.casesOn with
  |ref i=>exact nn h
  |_=>exact h
 |succ n ih=>
  intro v d h;have hL:∀(xs:List V) (ds:List PyData),dataL (eg os n) xs=af ds->dataL (eg os (n+1)) xs=af ds:=by
   intro xs;induction xs with
   |nil=>intro ds h;exact h
   |cons x xs Z4=>
    intro ds h;refine eY h λa h1 h=>lmap h λb h2 h=>?_;show (eg os (n+1) x).bind (λd=>(dataL (eg os (n+1)) xs).map (d:: ·))=_;rw [ih h1,Z4 b h2];exact congrArg af h
  induction v using V.casesOn with
  |ref i=>
   refine eY h λo ho h=>(yc ho).trans ?_;induction o using O.casesOn with
   |list xs=>exact lmap h λds h1 h2=>by show (dataL (eg os (n+1)) xs).map _=_;rw [hL xs ds h1];exact congrArg af h2
   |tuple xs=>exact lmap h λds h1 h2=>by show (dataL (eg os (n+1)) xs).map _=_;rw [hL xs ds h1];exact congrArg af h2
   |_=>exact nn h
  |_=>exact h
theorem Gg:∀{ls:List (List Str)},Am b os vs ls->dataL (eg os (n+1)) vs=af (ls.map λl=>.list (l.map .str)):=by
 induction vs with
 |nil=>intro ls h;cases ls with|nil=>rfl|cons _ _=>exact h.elim
 |cons v vs ih=>
  intro ls h;cases ls with
  |nil=>exact h.elim
  |cons l ls=>
   obtain ⟨⟨i,e,hb,a⟩,h2⟩:=h;subst e;show (eg os (n+1) (.ref i)).bind (λd=>(dataL (eg os (n+1)) vs).map (d:: ·))=_;rw [ih h2,kq a];rfl
theorem BE{x:PyData}{xs:List PyData}(h:x.canLay0=ao)(h':iy xs=ao):iy (x::xs)=ao:=by
 show (x.canLay0&&iy xs)=ao;rw [h,h'];rfl
theorem w4{x:PyData}{xs:List PyData}(h:x.depth<=k)(h':dJ xs<=k):dJ (x::xs)<=k:=by
 show max x.depth (dJ xs)<=k;exact Nat.max_le.mpr ⟨h,h'⟩
theorem Ra{ls:List (List Str)}:(∀l∈ls,∀x∈l,eO x=ao)->iy (ls.map λl=>.list (l.map .str))=ao/\dJ (ls.map λl=>.list (l.map .str))<=1:=by
 induction ls with
 |nil=>exact λ_=>⟨rfl,by decide⟩
 |cons l ls ih=>
  intro h;obtain ⟨a,b⟩:=ih λm hm=>h m (i8 _ hm);have h1:=rV (ws:=l) (h l (fm ..));have h2:=mM l;refine ⟨BE h1 a,w4 ?_ b⟩;show dJ (l.map .str)+1<=1;exact cg (ar h2) _
theorem Ou{nx:Str->Str}:∀(m:Nat) (p:List Str) (y:Str),(∀x∈p,x∈cH bV t 4)->y∈cH bV t 4->(∀x∈cH bV t 4,nx x∈cH bV t 4)->∀x∈qE nx m p y,x∈cH bV t 4:=by
 intro m;induction m with
 |zero=>exact λp y _ _ _ x hx=>absurd hx aV
 |succ m ih=>
  intro p y hp hy hn x hx;have er:qE nx (m+1) p y=if y∈p then pJ p y else qE nx m (p++ [y]) (nx y):=rfl
  rw [er] at hx;by_cases q:y∈p
  ·rw [if_pos q] at hx;rcases aG.mp hx with hx|hx
   ·exact hp x ((tP _).subset hx)
   ·rw [aL.mp hx];exact hy
  ·rw [if_neg q] at hx;exact ih (p++ [y]) (nx y) (λx hx=>by
    rcases aG.mp hx with hx|hx
    ·exact hp x hx
    ·rw [aL.mp hx];exact hy) (hn y hy) hn x hx
theorem JE:∀rg,nV t=af rg->∀x∈rg,eO x=ao:=λrg h x hx=>by
 unfold nV at h;refine lmap h λy hy e=>?_;subst e;have:=Ou (t:=t) _ _ _ (λ_ h=>absurd h aV) (En (mE hy)) (λx hx=>by
  refine ck (Ju (na:=bV) (t:=t) (n:=4) (ax _) x hx) λ_ _ _ _ h3=>?_;exact h3) x hx
 exact N7 (nF (nh x this))
theorem Gh:(F6 (nV t)).canLay0=ao/\(F6 (nV t)).depth<=20:=by
 cases q:nV t with
 |none=>exact ⟨rfl,by decide⟩
 |some rg=>
  refine ⟨rV (JE rg q),?_⟩;show dJ (rg.map .str)+1<=20;rw [mM];decide
theorem Gi:(C5 (nV t)).canLay0=ao/\(C5 (nV t)).depth<=20:=by
 cases q:nV t with
 |none=>exact ⟨rfl,by decide⟩
 |some rg=>
  refine ⟨BE (show eO "ring" =ao by kernel_rfl) (BE (rV (JE rg q)) rfl),?_⟩;show dJ _+1<=20;have:dJ [.str "ring",.list (rg.map .str)]<=1:=w4 (eS _) (w4 (by show dJ (rg.map .str)+1<=1;rw [mM];exact ax _) (eS _));exact aW this (ak rfl)
theorem Ov{d d':V}{G:List (List Str)}{es':List (Str × V)}(h:H7 os d (nV t) G es)(h':H7 os d' (nV t) G es')(hG:∀l∈G,∀x∈l,eO x=ao)(hl:es.length=es'.length)(hs:(es.all λp=>p.2.jU.isSome&&decide ((lookE es' p.1).bind V.jU=p.2.jU))=ao):EL os d d'=ae/\z7 os d d'=af ao:=by
 refine gM h λi v1 v2 g r'2=>?_;refine iB r'2 λm gs q'1 h1 h2 h3 h4 r'3=>?_;refine d7 r'3 λh5 h6=>?_;obtain rfl:=q'1;refine gM h' λi' YL YM g' r'5=>?_;refine iB r'5 λm' gs' q'4 Ik h2' h3' GI r'6=>?_;refine d7 r'6 λZl ZJ=>?_;obtain rfl:=q'4;have dg:eg os 7 (.ref g)=af (.list (G.map λl=>.list (l.map .str))):=by rw [y8 h4,Gg h5];rfl
 have dg':eg os 7 (.ref g')=af (.list (G.map λl=>.list (l.map .str))):=by rw [y8 GI,Gg Zl];rfl
 have dm:eg os 7 (.ref m)=ae:=by refine .trans (yc h6) ?_;rfl
 have dt:eg os 8 (.ref i)=ae:=by
  refine .trans (wY h1) ?_;show (vA (eg os 7 v1) _).map _=_;rw [h2,ct];show (iF _ (vA (eg os 7 v2) _)).map _=_;rw [h3,ct];show (iF _ (iF _ (vA (eg os 7 (.ref g)) _))).map _=_;rw [dg,ct];show (iF _ (iF _ (iF _ (vA (eg os 7 (.ref m)) _)))).map _=_;rw [dm];rfl
 obtain ⟨g1,g2⟩:=Ra hG;have s1:qu os v1 YL=ao:=by unfold qu;rw [Ak (vO h2) (vO h2') Gh.1 Gh.2];rfl
 have s2:qu os v2 YM=ao:=by unfold qu;rw [Ak (vO h3) (vO h3') Gi.1 Gi.2];rfl
 have s3:qu os (.ref g) (.ref g')=ao:=by unfold qu;rw [Ak (vO dg) (vO dg') g1 (by show dJ _+1<=20;exact aW g2 (ak rfl))];rfl
 have s4:qu os (.ref m) (.ref m')=ao:=by
  unfold qu;have:Di os (.ref m) (.ref m')=af ():=by
   show (os[m]?).bind (λoa=>(os[m']?).bind λob=>EM oa ob)=_;rw [h6,ZJ,ct,ct];show (if es.length=es'.length/\_=ao then af () else ae)=_;exact (if_pos ⟨hl,hs⟩)
  rw [this,eA];exact .inr rfl
 have sa:vE os [v1,v2,.ref g,.ref m] [YL,YM,.ref g',.ref m']=ao:=by
  show (qu os v1 YL&&(qu os v2 YM&&(qu os (.ref g) (.ref g')&&(qu os (.ref m) (.ref m')&&ao))))=ao;rw [s1,s2,s3,s4];rfl
 refine ⟨?_,?_⟩
 ·show (eg os 8 (.ref i)).bind _=ae;rw [dt];rfl
 ·show (os[i]?).bind (λoa=>(os[i']?).bind λob=>oa.uA.bind λxs=>ob.uA.bind λys=>if vE os xs ys=ao then af ao else ae)=_;rw [h1,Ik,ct,ct];show (if vE os [v1,v2,.ref g,.ref m] [YL,YM,.ref g',.ref m']=ao then af ao else ae)=_;exact (if_pos sa)
theorem H7.keep{d:V}{G:List (List Str)}(h:H7 os d rg G es)(hi:Hi os.length os os'):H7 os' d rg G es:=by
 refine gM h λi v1 v2 g r'7=>?_;refine iB r'7 λm gs e h1 h2 h3 h4 r'8=>?_;refine d7 r'8 λh5 h6=>?_;exact ⟨i,v1,v2,g,m,gs,e,hi.at (aY h1) h1,y9 hi.keep h2,y9 hi.keep h3,hi.at (aY h4) h4,h5.keep λi _ hl=>hi.keep i hl,hi.at (aY h6) h6⟩
theorem Ow{K:Nat}(hK:K<=4)(hne:∀k,k<K->(lh bV t k).2.2≠ [])(SG:(lh bV t K).2.2= []):(cb 0 K).map (GL t)=dG t (cb 0 4)/\(∀x,x∈(lh bV t K).2.1↔x∈dK t (cb 0 4))/\(lh bV t K).2.1.Nodup:=by
 have ri:=C3 ju (j7 (t:=t)) K;have stay:∀x∈bV,u6 bV t 4 x=ao->u6 bV t K x=ao:=λx hx h=>by
  refine QK (K:=K) (λx hx h=>?_) (4-K) x hx (by rw [show K+(4-K)=4 from fG hK];exact h);by_cases q:u6 bV t K x=ao
  ·exact q
  ·have:x∈(lh bV t K).2.2:=(ri.rd x).mpr ⟨hx,λw=>q ((vM ju j7 K x).mp w).2,λp hp=>(vM ju j7 K p).mpr ⟨Ed hp,bK.mp h p hp⟩⟩;rw [SG] at this;exact absurd this aV
 have aae:∀k,K<=k->k<4->GL t k= []:=λk h1 h2=>by
  cases q:GL t k with
  |nil=>rfl
  |cons a l=>
   obtain ⟨a1,a2⟩:=zM (q▸fm .. :a∈GL t k);obtain ⟨b1,b2⟩:=(H0 h2).mp a2;have:=stay a a1 (Bv (h2) b1);rw [Bv h1 this] at b2;injection b2
 have gne:∀k,k<K->GL t k≠ []:=λk hk e=>by
  rw [←JD j7 (by exact ag hk hK:k<4)] at e;have:=(oZ (lh bV t k).2.2).length_eq;rw [e] at this;exact hne k hk (gC.mp this.symm)
 refine ⟨?_,λx=>?_,ri.dn⟩
 ·unfold dG;have e:=List.range'_append_1 (s:=0) (m:=K) (n:=4-K);rw [fH,show K+(4-K)=4 from fG hK] at e;rw [←e,cw,qb];have e1:((cb 0 K).map (GL t)).filter (λl=>decide (l≠ []))=(cb 0 K).map (GL t):=v8.mpr λl hl=>by
   refine aR (aT.mp hl) λk hk q'9=>?_;obtain rfl:=q'9;rw [qS] at hk;exact decide_eq_true (gne k (ag hk.2 (ar (fH _))))
  have e2:((cb K (4-K)).map (GL t)).filter (λl=>decide (l≠ []))= []:=jf.mpr λl hl=>by
   refine aR (aT.mp hl) λk hk q'10=>?_;obtain rfl:=q'10;rw [qS] at hk;rw [aae k (hk.1) ((yv _ 4).elim (λq=>ag hk.2 (ar (fG q))) λq=>absurd (ag hk.2 (by rw [ud q];exact ax _)) (cD.mpr hk.1))];exact iK rfl
  rw [e1,e2,bB]
 ·rw [vM ju j7,H8,qS,fH];exact ⟨λ⟨a,b⟩=>⟨a,eS _,NQ.mpr (Bv hK b)⟩,λ⟨a,_,b⟩=>⟨a,stay x a (NQ.mp b)⟩⟩
noncomputable def zN:List (Int × Str)->Nat->Option Str
 | [],_=>ae
 |(.ofNat k,s)::r,c=>cond (il k c) (af s) (zN r c)
 |(.negSucc _,_)::r,c=>zN r c
theorem BF(c:Nat):∀l:List (Int × Str),lookE (l.map λp=>((p.1:Int),bc p.2)) (c:Int)=(zN l c).map .str
 | []=>rfl
 |(.ofNat k,s)::r=>by
  show (if sJ k=(c:Int) then af (bc s) else lookE (r.map λp=>((p.1:Int),bc p.2)) (c:Int))=iF bc (cond (il k c) (af s) (zN r c));by_cases h:k=c
  ·subst h;rw [if_pos (show sJ k=((k:Nat):Int) from rfl),Nat.beq_refl];rfl
  ·have h1:il k c=bf:=by
    induction q:il k c using cG with
    |false=>rfl
    |true=>exact absurd (um q) h
   rw [if_neg (show¬sJ k=((c:Nat):Int) from λq=>h (kX q)),h1,BF c r];rfl
 |(.negSucc k,s)::r=>by
  show (if Int.negSucc k=(c:Int) then af (bc s) else lookE (r.map λp=>((p.1:Int),bc p.2)) (c:Int))=iF bc (zN r c);exact (BF c r)▸rfl
def yd(c:Nat):Str:=(zN vF c).getD (vQ (iH c))
noncomputable def Vs:List Int->Nat->Bool
 | [],_=>bf
 | .ofNat k::r,c=>cond (il k c) ao (Vs r c)
 | .negSucc _::r,c=>Vs r c
theorem Ib(c:Nat):∀l:List Int,Vs l c=decide ((c:Int)∈l)
 | []=>rfl
 | .ofNat k::r=>by
  show cond (il k c) ao (Vs r c)=_;by_cases h:k=c
  ·subst h;rw [Nat.beq_refl];simp
  ·have h1:il k c=bf:=by
    induction q:il k c using cG with
    |false=>rfl
    |true=>exact absurd (um q) h
   rw [h1,Ib c r];have h2:¬(c:Int)=sJ k:=λq=>h (kX q).symm;simp only [cond_false,aZ,h2,false_or]
 | .negSucc k::r=>by
  show Vs r c=_;refine (Ib c r).trans ?_;have h2:¬(c:Int)=Int.negSucc k:=λq=>by injection q
  simp only [aZ,h2,false_or]
def BG(c:Nat):Bool:=Vs T1 c
def ye(c:Nat):Str:=if BG c then ⟨#[]⟩ else yd c
section
variable{l:bk}{ns:List Int}
theorem Ox(c:Nat)(fr:eB):dN (cx P aj cQ ao) (.bi "ord") [.str (iH c)] z ⟨fr,os⟩=af (.ret (.int c),⟨fr,os⟩):=Nh (by
 exact m_ord)
theorem WT(h:c.aj=cT l ns):c.aj.lookup 149=af (.B5 T1):=by refine h▸ ?_;rfl
theorem Se(h:c.aj=cT l ns):c.aj.lookup 160=af (.qt Vq):=by refine h▸ ?_;rfl
theorem Rb(c:Nat):cN P (cT l ns) (n+1) (.top 159) [.str (iH c)] os z=af (.ret (.bool (BG c)),os):=by
 rw [A9];have o1:=λfr=>Ox (P:=P) (cQ:=cN P (cT l ns) n) (z:=z) (os:=os) (aj:=cT l ns) c fr;have i1:∀fr,Pg (cy P (cT l ns) n) (.int (c:Int)) (.top 149) z ⟨fr,os⟩=af (decide ((c:Int)∈T1),⟨fr,os⟩):=λfr=>by
  exact ba (Qk (WT rfl) z _)
 have e:BG c=decide ((c:Int)∈T1):=Ib c T1;(delta we;with_reducible repeat' (first|apply o1|exact dR _ _ _|exact br|apply bt|apply bq|apply bG|exact bb|apply gz|with_unfolding_all rfl|(apply uX<;>first|rfl|(simp only [mpure,yY,Cj,dR,uW,getF,putF,c8,eX,if_true,if_false,reduceIte,cU,dT,cR,fE,fk,reduceCtorEq,cmpC,isV,cP,o1,i1,nA,e];done))))
theorem Rc(c:Nat):cN P (cT l ns) (n+1) (.top 205) [.str (iH c)] os z=af (.ret (.str (yd c)),os):=by
 rw [zZ];have o1:=λfr=>Ox (P:=P) (cQ:=cN P (cT l ns) n) (z:=z) (os:=os) (aj:=cT l ns) c fr;have m1:∀fr,ez (cy P (cT l ns) n) (.top 160) "get" z ⟨fr,os⟩=af (.bi "dict.get",⟨fr,os⟩):=λfr=>by
  exact (ba (Qk (Se rfl) z _)).trans (ba (fj (o:=idOf (.qt Vq) "get") D0 z _))
 have g1:∀fr,ft (cy P (cT l ns) n) "dict.get" (.top 160) [.int (c:Int)] z ⟨fr,os⟩=af ((lookE Vq (c:Int)).getD .none,⟨fr,os⟩):=λfr=>by
  exact Nc.trans (ba (Qk (Se rfl) z _))
 have e:lookE Vq (c:Int)=(zN vF c).map .str:=BF c vF;rw [e] at g1;have m2:=λfr=>rr (c:=cy P (cT l ns) n) (z:=z) (fr:=fr) (os:=os) (x:=iH c) M9;have l2:∀fr,ft (cy P (cT l ns) n) "str.lower" (.str (iH c)) [] z ⟨fr,os⟩=af (.str (vQ (iH c)),⟨fr,os⟩):=λfr=>by
  exact m_lower.trans (Bd (a:=aA (bc (vQ (iH c)))) (b:=fail) (p:=(iH c).cps.size<=1000000) (by show (1:Nat)<=1000000;decide) z _)
 induction hq:zN vF c using aw with
 |some s=>
  rw [hq] at g1;have e2:yd c=s:=by unfold yd;refine hq▸ ?_;rfl
  (delta pn;with_reducible repeat' (first|apply o1|apply m1|apply g1|exact dR _ _ _|exact br|apply bt|apply bq|apply bG|apply bO|exact bb|apply bh (by decide)|exact fe|apply fP (by decide)|exact aI|apply aO|exact bA|(apply b8;apply bX)|(apply rQ;focus with_unfolding_all exact rfl)|(apply bW;focus decide)|apply gz|(apply uX<;>first|rfl|(simp only [mpure,yY,Cj,dR,uW,getF,putF,c8,eX,if_true,if_false,reduceIte,cU,dT,cR,fE,fk,reduceCtorEq,cmpC,isV,cP,o1,m1,bX,g1,zk,nA,e2];done))))
 |none=>
  rw [hq] at g1;have e2:yd c=vQ (iH c):=by unfold yd;refine hq▸ ?_;rfl
  (delta pn;with_reducible repeat' (first|apply o1|apply m1|apply g1|apply m2|apply l2|exact dR _ _ _|exact br|apply bt|apply bq|apply bG|apply bO|exact bb|apply bh (by decide)|exact fe|apply fP (by decide)|exact aI|apply aO|(apply b8;apply bX)|(apply rQ;focus with_unfolding_all exact rfl)|(apply ite_no;focus decide)|apply gz|(apply uX<;>first|rfl|(simp only [mpure,yY,Cj,dR,uW,getF,putF,c8,eX,if_true,if_false,reduceIte,cU,dT,cR,fE,fk,reduceCtorEq,cmpC,isV,cP,o1,m1,bX,g1,zl,m2,l2,nA,e2];done))))
theorem Rd:ka (Kw P) (.ref 159)=ao:=by kernel_rfl
theorem Rf:ka (Kw P) (.ref 205)=ao:=by kernel_rfl
theorem Y9:¬(ao==bf)=ao:=by decide
theorem Za:(bf==bf)=ao:=rfl
theorem Gj(cs:List Nat):cZ (cs.flatMap λc=>if BG c=ao then [] else [yd c])=cZ (cs.map ye):=by
 induction cs with
 |nil=>rfl
 |cons c cs ih=>
  rw [bz,Ei,ih];show _=ye c++cZ (cs.map ye);congr 1;unfold ye;by_cases h:BG c=ao
  ·rw [if_pos h,if_pos h];rfl
  ·rw [if_neg h,if_neg h,Al]
theorem Oy(s:Str):cZ (lets s)=s:=by
 obtain ⟨⟨l⟩⟩:=s;show cZ (l.map iH)=_;induction l with
 |nil=>rfl
 |cons a l ih=>
  show iH a++cZ (l.map iH)=_;rw [ih];show (⟨#[a]++⟨l⟩⟩:Str)=⟨⟨a::l⟩⟩;have e:(#[a]++(⟨l⟩:Array Nat))=⟨a::l⟩:=Array.ext' (by refine (oj).trans ?_;rfl);exact congrArg _ (e)
theorem UK{cs:List Nat}(hz:∀j∈z,j<os.length)(hl:cs.length<=100000):
  ∃os',fg (λfr=>fh []) (λuq i src=>mZ (cy P (cT l ns) (n+1)) uq i src) ⟨cs.map λc=>.str (iH c),ae⟩ z ⟨fr,os⟩=af (.ref os.length,⟨fr,os'⟩)/\os'[os.length]? =af (.list ((cs.flatMap λc=>if BG c=ao then [] else [yd c]).map .str))/\Hi os.length os os':=by
 have hN:(cs.flatMap λc=>if BG c=ao then [] else [bc (yd c)]).length<=1000000:=by
  have:∀l:List Nat,(l.flatMap λc=>if BG c=ao then [] else [bc (yd c)]).length<=l.length:=by
   intro l;induction l with
   |nil=>exact ax _
   |cons a l ih=>
    rw [bz,aq,aU];have:(if BG a=ao then [] else [bc (yd a)]).length<=1:=by split<;>simp
    exact Yl this ih
  have:=this cs;exact ai (ai this hl) (ak rfl)
 refine cO (iV (fr:=fr) (os:=os) (z:=z) (ups:=λfr=>fh []) (body:=λuq i src=>mZ (cy P (cT l ns) (n+1)) uq i src) (turn:=λuq i v=>mY (cy P (cT l ns) (n+1)) uq i v) (fz:=none) (iv:=λc=>bc (iH c)) (f:=λc=>if BG c=ao then [] else [bc (yd c)]) (l:=cs) (λ_ _ _=>rfl) hz (λ_ h=>by injection h) hN
  (λz' hz' a ha iz c9 xs h1 h2 hN=>by
   have hacc:os.length∉z':=λq=>aX _ (hz' _ q);have b1:=Rb (P:=P) (l:=l) (ns:=ns) (z:=z') (n:=n) (os:=c9) a;have k1:=λfr as=>gW (P:=P) (aj:=cT l ns) (cQ:=cN P (cT l ns) (n+1)) (z:=z') (fr:=fr) (os:=c9) (as:=as) Rd;have b2:=Rc (P:=P) (l:=l) (ns:=ns) (z:=z') (n:=n) (os:=c9) a;have k2:=λfr as=>gW (P:=P) (aj:=cT l ns) (cQ:=cN P (cT l ns) (n+1)) (z:=z') (fr:=fr) (os:=c9) (as:=as) Rf;by_cases q:BG a=ao
   ·simp only [if_pos q,bB] at hN ⊢;rw [q] at b1;refine ⟨putF iz "sign" (.str (iH a)),c9,?_,h2,h1⟩;(delta mY;with_reducible repeat' (first|(apply gE;apply k1)|apply b1|(apply pF;focus with_unfolding_all exact rfl)|(apply ite_no;focus exact Y9)|(apply ite_no;focus exact bj)|exact dR _ _ _|exact br|apply bt|apply bq|apply bG|apply bO|exact aE|apply av (by decide)|exact bb|apply bh (by decide)|exact aI|apply aO|exact bA|(apply b8;apply bX)|(apply bW;focus rfl)|rfl))
   ·simp only [if_neg q] at hN ⊢;rw [yB.mpr q] at b1;have p1:=λ(c:Cx) fr=>g8 (c:=c) h2 hacc hN (.str (yd a)) fr;refine ⟨putF iz "sign" (.str (iH a)),c9.set os.length (.list (xs++ [.str (yd a)])),?_,dA h2,h1.trans (Hi.set (ax _) _)⟩;(delta mY;with_reducible repeat' (first|(apply gE;apply k1)|apply b1|(apply pF;focus with_unfolding_all exact rfl)|(apply bW;focus exact Za)|(apply gE;apply k2)|apply b2|apply p1|exact dR _ _ _|exact br|apply bt|apply bq|apply bG|apply bO|exact aE|apply av (by decide)|exact bb|apply bh (by decide)|exact aI|apply aO|exact bA|(apply b8;apply bX)|(apply bW;focus rfl)|rfl)))) λos' e g1 g2=>?_
 refine ⟨os',e,g1.trans ?_,g2⟩;congr 2;refine List.map_flatMap▸ ?_;congr 1
 funext c
 split<;>rfl
theorem Lj{cs:List Nat}(hz:∀j∈z,j<os.length)(hc:∀c∈cs,c<1114112)(hl:cs.length<=1000)(hs:(cZ (cs.map ye)).cps.size<=1000000):
  ∃os',cN P (cT l ns) (n+2) (.top 222) [.str (cZ (cs.map iH))] os z=af (.ret (.str (cZ (cs.map ye))),os')/\Hi os.length os os':=by
 rw [DM];have s1:=λfr=>qG (P:=P) (aj:=cT l ns) (cQ:=cN P (cT l ns) (n+1)) (z:=z) (fr:=fr) (os:=os) (L:=cs.map iH) (λy hy=>by
  refine aR (aT.mp hy) λc h q'1=>?_;obtain rfl:=q'1;exact ⟨c,hc c h,rfl⟩)
 rw [dw] at s1;have m1:=λ(c:Cx) fr=>rr (c:=c) (z:=z) (fr:=fr) (os:=os) (x:=ah "") vI;refine cO (UK (P:=P) (l:=l) (ns:=ns) (z:=z) (n:=n) (os:=os) (fr:=[(ah "text",.str (cZ (cs.map iH)))]) (cs:=cs) hz (ai hl (ak rfl))) λc9 e1 g1 k1=>?_;have Vw:fg (λfr=>fh []) (λuq i src=>mZ (cy P (cT l ns) (n+1)) uq i src) ⟨cs.map (bc∘iH),ae⟩ z ⟨[("text",.str (cZ (cs.map iH)))],os⟩=_:=e1;have j1:=λ(c:Cx) fr=>zb (c:=c) (z:=z) (fr:=fr) g1 (by rw [Gj];exact hs);rw [Gj] at j1;refine ⟨c9,gz (fr:=[(ah "text",.str (cZ (cs.map iH)))]) ?_,k1⟩;(delta zJ;with_reducible repeat' (first|apply m1|apply s1|apply Vw|apply j1|exact dR _ _ _|exact br|apply bt|apply bq|apply bG|apply bO|exact aE|apply av (by decide)|exact bb|apply bh (by decide)|exact aI|apply aO|exact bA|(apply b8;apply bX)|(apply bW;focus rfl)|rfl))
end
noncomputable def rX:List Nat:=[97,98,99,100,107,108,112,122]
noncomputable def Sf:List Nat:=[0,1,2,4,7,12]
noncomputable def WU:List Nat:=[13187,13189,8451,8517,13188,13190,13184,13169]
def Yp:List Str:=[ah "ma",ah "kb",iH 176++ah "c",ah "d",ah "ka",ah "mb",ah "pa",ah "hpa"]
noncomputable def WV:List Nat:=[173,847,6150,8203,8205,8288,65024,65279]
noncomputable def yG(e k:Nat):Nat:=if k=0 then rX.getD e 0 else if k=1 then 65+(rX.getD e 0-97) else if k<8 then 119808+52*Sf.getD (k-2) 0+(rX.getD e 0-97) else if k=8 then WU.getD e 0 else WV.getD e 0
def BY(e k:Nat):Str:=if k<8 then iH (rX.getD e 0) else if k=8 then Yp.getD e ⟨#[]⟩ else ah ""
def WW(e k:Nat):Bool:=decide (ye (yG e k)=BY e k)&&decide (yG e k<1114112)&&decide ((BY e k).cps.toList.length<=3)&&(BY e k).cps.toList.all λc=>decide (c<1114112)
theorem Zb:((mQ 10).all λk=>(mQ 8).all λe=>WW e k)=ao:=by decide+kernel
def nH(c:Nat)(w:Str):O:=.tuple [.str (iH c),.str w]
theorem UL{i:Int}{s:eP}(h:0<=i/\i<1114112):Ph [.int i] z s=af (.str ⟨#[i.toNat]⟩,s):=Bd h z _
theorem WX{i:Int}(hi:i=(k:Int))(hk:k<1114112)(fr:eB)(os:List O):dN (cx P aj cQ ao) (.bi "chr") [.int i] z ⟨fr,os⟩=af (.ret (.str (iH k)),⟨fr,os⟩):=Nh (by
 subst hi;refine Wv.trans ((UL ⟨d0 _,oG.mpr hk⟩).trans ?_);rw [md];rfl)
theorem mod_int{x y:Int}(hy:y≠0)(h:kT x y=k)(fr:eB)(os:List O):binC c .Mod (.int x) (.int y) z ⟨fr,os⟩=af (.int k,⟨fr,os⟩):=by
 show (if y=0 then fail else aA (bD (kT x y)):M V) z ⟨fr,os⟩=_;rw [if_neg hy,h];rfl
theorem getD_at{l:List α}{d:α}(h:k<l.length):l[k]? =af (l.getD k d):=by
 rw [qh,di h];rfl
theorem Ic{t:Nat}(ht:os[t]? =af (.list xs))(hx:xs=ks.map λ(k:Nat)=>bD k)(hk:k<ks.length)(hl:ks.length<=100):d8 c (.ref t) (.int k) z ⟨fr,os⟩=af (.int (ks.getD k 0:Nat),⟨fr,os⟩):=by
 subst hx;exact yb (.inl ht) (by rw [ei,getD_at (d:=0) hk];rfl) (by simp;exact bR hl)
theorem UM{t:Nat}{ks:List Str}(ht:os[t]? =af (.list xs))(hx:xs=ks.map .str)(hk:k<ks.length)(hl:ks.length<=100):d8 c (.ref t) (.int k) z ⟨fr,os⟩=af (.str (ks.getD k ⟨#[]⟩),⟨fr,os⟩):=by
 subst hx;exact yb (.inl ht) (by rw [ei,getD_at (d:=⟨#[]⟩) hk];rfl) (by simp;exact bR hl)
theorem Es{e:Nat}(he:e<8)(hk:k<10):ye (yG e k)=BY e k/\yG e k<1114112/\(BY e k).cps.toList.length<=3/\∀c∈(BY e k).cps.toList,c<1114112:=by
 have h:=bK.mp (bK.mp Zb k (BX.mpr hk)) e (BX.mpr he);unfold WW at h;simp only [aS,decide_eq_true_eq] at h;exact ⟨h.1.1.1,h.1.1.2,h.1.2,λc hc=>iK (bK.mp h.2 c hc)⟩
theorem mul_int{x y:Int}(hx:x.natAbs<=1000000000)(hy:y.natAbs<=1000000000)(fr:eB)(os:List O):binC c .Mult (.int x) (.int y) z ⟨fr,os⟩=af (.int (x*y),⟨fr,os⟩):=Bd (a:=aA (bD (x*y))) (b:=fail) ⟨hx,hy⟩ z _
theorem sub_int(x y:Int)(fr:eB)(os:List O):binC c .Sub (.int x) (.int y) z ⟨fr,os⟩=af (.int (x-y),⟨fr,os⟩):=rfl
theorem Rg{x y:Int}(hx:x.natAbs<=1000000000)(hy:y.natAbs<=1000000000)(h0:y≠0)(h:BM x y=k)(fr:eB)(os:List O):binC c .FloorDiv (.int x) (.int y) z ⟨fr,os⟩=af (.int k,⟨fr,os⟩):=by
 show (if y=0∨x.natAbs>1000000000∨y.natAbs>1000000000 then fail else aA (bD (BM x y)):M V) z ⟨fr,os⟩=_;rw [if_neg (λq=>q.elim h0 λq=>q.elim (cD.mpr hx) (cD.mpr hy)),h];rfl
theorem Oz:ah "abcdklpz" =cZ (rX.map iH):=by kernel_rfl
theorem WY{e:Nat}(he:e<8):97<=rX.getD e 0/\rX.getD e 0<=122:=by
 have:∀e<8,97<=rX.getD e 0/\rX.getD e 0<=122:=by decide
 exact this e he
theorem Et{e:Nat}(he:e<8)(hk:k<10):∃os' t,cN P aj (n+1) (.top 217) [.int ((8*k+e:Nat):Int)] os z=af (.ret (.ref t),os')/\Hi os.length os os'/\os'[t]? =af (nH (yG e k) (BY e k)):=by
 rw [z0];obtain ⟨g1,g2⟩:=WY he;have hs:=(Es he hk).2.1;have f1:kT ((8*k+e:Nat):Int) 8=(e:Nat):=by refine (Int.fmod_eq_emod_of_nonneg _ (by decide)).trans ?_;exact congrArg sJ ((Nat.mul_add_mod _ _ _).trans (Nat.mod_eq_of_lt he))
 have f2:BM ((8*k+e:Nat):Int) 8=(k:Nat):=by refine (Int.fdiv_eq_ediv_of_nonneg _ (by decide)).trans ?_;exact congrArg sJ ((Nat.mul_add_div (ak rfl) _ _).trans (congrArg _ (Nat.div_eq_of_lt he)))
 have d1:=λ(c:Cx) fr (os:List O)=>mod_int (z:=z) (by decide) f1 (c:=c) fr os;have d2:=λ(c:Cx) fr (os:List O)=>Rg (z:=z) (qi (dW (df 8 (bS hk)) (bS he)) rfl) (by decide) (by decide) f2 (c:=c) fr os;have i1:∀(c:Cx) (s:eP),d8 c (.str "abcdklpz") (.int (e:Nat)) z s=af (.str (iH (rX.getD e 0)),s):=λc s=>by
  refine Oz▸ ?_;exact Sa (L:=rX.map iH) (λy hy=>by
   refine aR (aT.mp hy) λc hc q'1=>?_;obtain rfl:=q'1;have:∀c∈rX,c<1114112:=by decide
   exact ⟨c,this c hc,rfl⟩) (by rw [ei,getD_at (d:=0) (show e<rX.length from he)];rfl) (by decide)
 have o1:=λfr (os:List O)=>Ox (P:=P) (cQ:=cN P aj n) (z:=z) (os:=os) (aj:=aj) (rX.getD e 0) fr;obtain ⟨F,hF⟩:∃F:List V->M CR,F=dN (cy P aj n) (.bi "chr"):=⟨_,rfl⟩;have ch:∀{k:Nat}{i:Int},i=(k:Int)->k<1114112->∀fr os,F [.int i] z ⟨fr,os⟩=af (.ret (.str (iH k)),⟨fr,os⟩):=λh1 h2 fr os=>by refine hF▸ ?_;exact WX h1 h2 fr os
 have p1:=λfr (os:List O)=>dQ (o:=nH (yG e k) (BY e k)) rfl z fr os;have q0:=λ(os:List O)=>eq_int (a:=(k:Nat)) (b:=0) os;have start:∀r,jO (cy P aj n) z ⟨[("draw",.int ((8*k+e:Nat):Int)),("letter",.str (iH (rX.getD e 0))),("place",.int ((rX.getD e 0:Nat)-97)),("dress",.int (k:Nat))],os⟩=r->iT (cy P aj n) z ⟨[("draw",.int ((8*k+e:Nat):Int))],os⟩=r:=λr h=>by
  (delta iT qC qB;with_reducible repeat' (first|apply d1|apply i1|apply o1|apply sub_int|apply d2|apply h|apply fe|(apply fP (by decide))|exact dR _ _ _|exact br|apply bt|apply bq|apply bG|apply bO|exact aE|apply av (by decide)|exact bb|apply bh (by decide)|exact aI|apply aO|exact bA|(apply b8;apply bX)|(apply bW;focus rfl)|rfl))
 by_cases h0:k=0
 ·subst h0;refine ⟨os++ [nH (yG e 0) (BY e 0)],os.length,gz (fr:=[(ah "draw",.int ((8*0+e:Nat):Int)),(ah "letter",.str (iH (rX.getD e 0))),(ah "place",.int ((rX.getD e 0:Nat)-97)),(ah "dress",.int (0:Nat))]) (start _ ?_),Hi.grow (ax _) _,cL⟩;have q:=q0 os;rw [decide_eq_true (show ((0:Nat):Int)=0 from rfl)] at q;have p2:∀fr (os:List O),alloc (.tuple [.str (iH (rX.getD e 0)),.str (iH (rX.getD e 0))]) z ⟨fr,os⟩=af (.ref os.length,⟨fr,os++ [nH (yG e 0) (BY e 0)]⟩):=p1;(delta jO;with_reducible repeat' (first|(apply kH;exact q)|apply p2|exact dR _ _ _|exact br|apply bt|apply bq|apply bG|apply bO|exact aE|apply av (by decide)|exact bb|apply bh (by decide)|exact aI|apply aO|exact bA|(apply b8;apply bX)|(apply bW;focus rfl)|rfl))
 have n0:=q0 os;rw [decide_eq_false (show¬((k:Nat):Int)=0 from λq=>h0 (kX q))] at n0;have OU:∀r,jN (cy P aj n) z ⟨[("draw",.int ((8*k+e:Nat):Int)),("letter",.str (iH (rX.getD e 0))),("place",.int ((rX.getD e 0:Nat)-97)),("dress",.int (k:Nat))],os⟩=r->iT (cy P aj n) z ⟨[("draw",.int ((8*k+e:Nat):Int))],os⟩=r:=λr h=>start _ (by
  (delta jO;with_reducible repeat' (first|(apply kH;exact n0)|(apply ite_no;focus exact bj)|apply h|exact dR _ _ _|exact br|apply bt|apply bq|apply bG|apply bO|exact aE|apply av (by decide)|exact bb|apply bh (by decide)|exact aI|apply aO|exact bA|(apply b8;apply bX)|(apply bW;focus rfl)|rfl)))
 have q1:=eq_int (a:=(k:Nat)) (b:=1) os;by_cases h1:k=1
 ·subst h1;refine ⟨os++ [nH (yG e 1) (BY e 1)],os.length,gz (fr:=[(ah "draw",.int ((8*1+e:Nat):Int)),(ah "letter",.str (iH (rX.getD e 0))),(ah "place",.int ((rX.getD e 0:Nat)-97)),(ah "dress",.int (1:Nat))]) (OU _ ?_),Hi.grow (ax _) _,cL⟩;rw [decide_eq_true (show ((1:Nat):Int)=1 from rfl)] at q1;have c1:=ch (k:=yG e 1) (i:=65+(((rX.getD e 0:Nat):Int)-97)) (by show _=((65+(rX.getD e 0-97):Nat):Int);exact congrArg (65+ ·) (wD g1).symm) hs;have p2:∀fr (os:List O),alloc (.tuple [.str (iH (yG e 1)),.str (iH (rX.getD e 0))]) z ⟨fr,os⟩=af (.ref os.length,⟨fr,os++ [nH (yG e 1) (BY e 1)]⟩):=p1;delta jN;refine (hF).symm▸ ?_;(with_reducible repeat' (first|(apply kH;exact q1)|apply add_int|apply c1|apply p2|exact dR _ _ _|exact br|apply bt|apply bq|apply bG|apply bO|exact aE|apply av (by decide)|exact bb|apply bh (by decide)|exact aI|apply aO|exact bA|(apply b8;apply bX)|(apply bW;focus rfl)|rfl))
 rw [decide_eq_false (show¬((k:Nat):Int)=1 from λq=>h1 (kX q))] at q1;have OV:∀r,jM (cy P aj n) z ⟨[("draw",.int ((8*k+e:Nat):Int)),("letter",.str (iH (rX.getD e 0))),("place",.int ((rX.getD e 0:Nat)-97)),("dress",.int (k:Nat))],os⟩=r->iT (cy P aj n) z ⟨[("draw",.int ((8*k+e:Nat):Int))],os⟩=r:=λr h=>OU _ (by
  (delta jN;with_reducible repeat' (first|(apply kH;exact q1)|(apply ite_no;focus exact bj)|apply h|exact dR _ _ _|exact br|apply bt|apply bq|apply bG|apply bO|exact aE|apply av (by decide)|exact bb|apply bh (by decide)|exact aI|apply aO|exact bA|(apply b8;apply bX)|(apply bW;focus rfl)|rfl)))
 have e1:yG e k=if k<8 then 119808+52*Sf.getD (k-2) 0+(rX.getD e 0-97) else if k=8 then WU.getD e 0 else WV.getD e 0:=by
  unfold yG;(refine (if_neg h0).trans ?_;exact (if_neg h1))
 by_cases h2:k<8
 ·have hw:BY e k=iH (rX.getD e 0):=if_pos h2;rw [if_pos h2] at e1;have ha:=λfr=>dQ (o:=.list [.int 0,.int 1,.int 2,.int 4,.int 7,.int 12]) rfl z fr os;have i2:∀(c:Cx) fr,d8 c (.ref os.length) (.int (((k:Nat):Int)-2)) z ⟨fr,os++ [.list [.int 0,.int 1,.int 2,.int 4,.int 7,.int 12]]⟩=af (.int (Sf.getD (k-2) 0:Nat),⟨fr,os++ [.list [.int 0,.int 1,.int 2,.int 4,.int 7,.int 12]]⟩):=λc fr=>by
   rw [show ((k:Nat):Int)-2=((k-2:Nat):Int) from (wD (qc (xm h0) (yn h1))).symm];exact Ic (ks:=Sf) cL rfl (show k-2<6 from yF (vB (dF h2) 2)) (by decide)
  have hal:Sf.getD (k-2) 0<=12:=by
   have:∀j<6,Sf.getD j 0<=12:=by decide
   exact this (k-2) (yF (vB (dF h2) 2))
  have m2:=λ(c:Cx) fr (os:List O)=>mul_int (z:=z) (x:=52) (y:=(Sf.getD (k-2) 0:Nat)) (by decide) (qi hal rfl) (c:=c) fr os;have c1:=ch (k:=yG e k) (i:=119808+52*((Sf.getD (k-2) 0:Nat):Int)+(((rX.getD e 0:Nat):Int)-97)) (by rw [e1];exact congrArg _ (wD g1).symm) hs;have p2:∀fr (os:List O),alloc (.tuple [.str (iH (yG e k)),.str (iH (rX.getD e 0))]) z ⟨fr,os⟩=af (.ref os.length,⟨fr,os++ [nH (yG e k) (BY e k)]⟩):=by rw [hw] at p1 ⊢;exact p1
  have lt:decide (((k:Nat):Int)<8)=ao:=decide_eq_true (oG.mpr h2);refine ⟨os++ [.list [.int 0,.int 1,.int 2,.int 4,.int 7,.int 12]]++ [nH (yG e k) (BY e k)],_,gz (fr:=[(ah "draw",.int ((8*k+e:Nat):Int)),(ah "letter",.str (iH (rX.getD e 0))),(ah "place",.int ((rX.getD e 0:Nat)-97)),(ah "dress",.int (k:Nat))]) (OV _ ?_),(Hi.grow (ax _) _).trans (Hi.grow (by refine aq▸ ?_;exact aF _ _) _),cL⟩;delta jM;refine (hF).symm▸ ?_;(with_reducible repeat' (first|exact DY|(apply bW;focus exact lt)|apply ha|apply sub_int|apply i2|apply m2|apply add_int|apply c1|apply p2|exact dR _ _ _|exact br|apply bt|apply bq|apply bG|apply bO|exact aE|apply av (by decide)|exact bb|apply bh (by decide)|exact aI|apply aO|exact bA|(apply b8;apply bX)|(apply bW;focus rfl)|rfl))
 have nlt:¬decide (((k:Nat):Int)<8)=ao:=by refine (decide_eq_false (by exact λq=>h2 (oG.mp q)))▸ ?_;exact bj
 rw [if_neg h2] at e1;have OW:∀r,jL (cy P aj n) z ⟨[("draw",.int ((8*k+e:Nat):Int)),("letter",.str (iH (rX.getD e 0))),("place",.int ((rX.getD e 0:Nat)-97)),("dress",.int (k:Nat))],os⟩=r->iT (cy P aj n) z ⟨[("draw",.int ((8*k+e:Nat):Int))],os⟩=r:=λr h=>OV _ (by
  (delta jM;with_reducible repeat' (first|exact DY|(apply ite_no;focus exact nlt)|apply h|exact dR _ _ _|exact br|apply bt|apply bq|apply bG|apply bO|exact aE|apply av (by decide)|exact bb|apply bh (by decide)|exact aI|apply aO|exact bA|(apply b8;apply bX)|(apply bW;focus rfl)|rfl)))
 have q8:=eq_int (a:=(k:Nat)) (b:=8) os;by_cases h8:k=8
 ·subst h8;rw [if_pos rfl] at e1;rw [decide_eq_true (show ((8:Nat):Int)=8 from rfl)] at q8;have ha:=λfr=>dQ (o:=.list [.int 13187,.int 13189,.int 8451,.int 8517,.int 13188,.int 13190,.int 13184,.int 13169]) rfl z fr os;have i2:∀(c:Cx) fr,d8 c (.ref os.length) (.int (e:Nat)) z ⟨fr,os++ [.list [.int 13187,.int 13189,.int 8451,.int 8517,.int 13188,.int 13190,.int 13184,.int 13169]]⟩=af (.int (WU.getD e 0:Nat),_):=λc fr=>Ic (ks:=WU) cL rfl he (by decide);have c1:=ch (k:=yG e 8) (i:=((WU.getD e 0:Nat):Int)) (by exact congrArg _ (e1)) hs;have c2:=ch (k:=176) (i:=176) rfl (by decide);have ad:∀(c:Cx) (s:eP),binC c .Add (.str (iH 176)) (.str "c") z s=af (.str (iH 176++ah "c"),s):=λc s=>Gb (by decide+kernel);have hb:=λfr (os:List O)=>dQ (o:=.list [.str "ma",.str "kb",.str (iH 176++ah "c"),.str "d",.str "ka",.str "mb",.str "pa",.str "hpa"]) rfl z fr os;have i3:∀(c:Cx) fr (os:List O),d8 c (.ref os.length) (.int (e:Nat)) z ⟨fr,os++ [.list [.str "ma",.str "kb",.str (iH 176++ah "c"),.str "d",.str "ka",.str "mb",.str "pa",.str "hpa"]]⟩=af (.str (Yp.getD e ⟨#[]⟩),_):=λc fr os=>UM (ks:=Yp) cL rfl he (by decide);have p2:∀fr (os:List O),alloc (.tuple [.str (iH (yG e 8)),.str (Yp.getD e ⟨#[]⟩)]) z ⟨fr,os⟩=af (.ref os.length,⟨fr,os++ [nH (yG e 8) (BY e 8)]⟩):=p1;refine ⟨os++ [.list [.int 13187,.int 13189,.int 8451,.int 8517,.int 13188,.int 13190,.int 13184,.int 13169]]++ [.list [.str "ma",.str "kb",.str (iH 176++ah "c"),.str "d",.str "ka",.str "mb",.str "pa",.str "hpa"]]++ [nH (yG e 8) (BY e 8)],_,gz (fr:=[(ah "draw",.int ((8*8+e:Nat):Int)),(ah "letter",.str (iH (rX.getD e 0))),(ah "place",.int ((rX.getD e 0:Nat)-97)),(ah "dress",.int (8:Nat)),(ah "sign",.str (iH (yG e 8)))]) (OW _ ?_),((Hi.grow (ax _) _).trans (Hi.grow (by refine aq▸ ?_;exact aF _ _) _)).trans (Hi.grow (by rw [aq,aq];exact ai (aF _ _) (aF _ _)) _),cL⟩;delta jL;refine (hF).symm▸ ?_;(with_reducible repeat' (first|(apply kH;exact q8)|apply ha|apply d1|apply i2|apply c1|apply c2|apply ad|apply hb|apply i3|apply p2|apply fe|(apply fP (by decide))|exact dR _ _ _|exact br|apply bt|apply bq|apply bG|apply bO|exact aE|apply av (by decide)|exact bb|apply bh (by decide)|exact aI|apply aO|exact bA|(apply b8;apply bX)|(apply bW;focus rfl)|rfl))
 rw [if_neg h8] at e1;rw [decide_eq_false (show¬((k:Nat):Int)=8 from λq=>h8 (kX q))] at q8;have hw:BY e k=ah "" :=by unfold BY;(refine (if_neg h2).trans ?_;exact (if_neg h8))
 have ha:=λfr=>dQ (o:=.list [.int 173,.int 847,.int 6150,.int 8203,.int 8205,.int 8288,.int 65024,.int 65279]) rfl z fr os;have i2:∀(c:Cx) fr,d8 c (.ref os.length) (.int (e:Nat)) z ⟨fr,os++ [.list [.int 173,.int 847,.int 6150,.int 8203,.int 8205,.int 8288,.int 65024,.int 65279]]⟩=af (.int (WV.getD e 0:Nat),_):=λc fr=>Ic (ks:=WV) cL rfl he (by decide);have c1:=ch (k:=yG e k) (i:=((WV.getD e 0:Nat):Int)) (by rw [e1]) hs;have p2:∀fr (os:List O),alloc (.tuple [.str (iH (yG e k)),.str ""]) z ⟨fr,os⟩=af (.ref os.length,⟨fr,os++ [nH (yG e k) (BY e k)]⟩):=by rw [hw] at p1 ⊢;exact p1
 refine ⟨os++ [.list [.int 173,.int 847,.int 6150,.int 8203,.int 8205,.int 8288,.int 65024,.int 65279]]++ [nH (yG e k) (BY e k)],_,gz (fr:=[(ah "draw",.int ((8*k+e:Nat):Int)),(ah "letter",.str (iH (rX.getD e 0))),(ah "place",.int ((rX.getD e 0:Nat)-97)),(ah "dress",.int (k:Nat))]) (OW _ ?_),(Hi.grow (ax _) _).trans (Hi.grow (by refine aq▸ ?_;exact aF _ _) _),cL⟩;delta jL qA;refine (hF).symm▸ ?_;(with_reducible repeat' (first|(apply kH;exact q8)|(apply ite_no;focus exact bj)|apply ha|apply d1|apply i2|apply c1|apply p2|exact dR _ _ _|exact br|apply bt|apply bq|apply bG|apply bO|exact aE|apply av (by decide)|exact bb|apply bh (by decide)|exact aI|apply aO|exact bA|(apply b8;apply bX)|(apply bW;focus rfl)|rfl))
noncomputable def Ie:List Nat:=[9,72,4,18,5,15,6,75,61,64,66,2]
noncomputable def GD(ns:List Int):List Nat:=(ns.take 12).map (λx=>(kT x 80).toNat)++Ie.drop (ns.take 12).length
def Ig(d:Nat):Nat:=yG (d%8) (d/8)
def C6(d:Nat):Str:=BY (d%8) (d/8)
section
variable{l:bk}{ns:List Int}
theorem Rh:(GD ns).length=12:=by
 unfold GD;rw [aq,aH,kA,fy];show _+(12-_)=12;exact fG (eV _ _)
theorem UN:∀d∈GD ns,d<80:=λd hd=>by
 rcases aG.mp hd with h|h
 ·refine aR (aT.mp h) λx _ q'1=>?_;obtain rfl:=q'1;have h1:=tQ x (b:=80) (by decide);have h2:=Int.fmod_lt_of_pos x (b:=80) (by decide);exact (Int.toNat_lt h1).mpr h2
 ·have:∀d∈Ie,d<80:=by decide
  exact this d (kf h)
theorem Zc(h:c.aj=cT l ns)(h1:l≠160)(h2:l≠149):c.aj.lookup l=af (.list (ns.map .int)):=by
 rw [h];unfold cT;have e1:(l==(160:bk))=bf:=by simpa using h1
 have e2:(l==(149:bk))=bf:=by simpa using h2
 rw [cz,e1];dsimp only;rw [cz,e2];dsimp only;rw [cz,beq_self_eq_true]
theorem add_lists{ys:List V}(h1:os[i]? =af (.list xs))(h2:os[j]? =af (.list ys))(hl:xs.length+ys.length<=1000000)(fr:eB):binC c .Add (.ref i) (.ref j) z ⟨fr,os⟩=af (.ref os.length,⟨fr,os++ [.list (xs++ys)]⟩):=
 (ba (eC h1 z fr)).trans ((ba (eC h2 z fr)).trans (dQ (o:=.list (xs++ys)) (decide_eq_true (by rw [aq];exact hl)) z fr os))
theorem Ri{xs:List Int}(hz:∀j∈z,j<os.length)(hf:∀j,fz=af j->j<os.length)(hl:xs.length<=100):
  ∃os',fg (λfr=>fh []) (λuq i src=>pz (cx P (cT l ns) cQ ao) uq i src) ⟨xs.map .int,fz⟩ z ⟨fr,os⟩=af (.ref os.length,⟨fr,os'⟩)/\os'[os.length]? =af (.list ((xs.map λx=>(kT x 80).toNat).map λ(k:Nat)=>bD k))/\Hi os.length os os':=by
 refine cO (iV (fr:=fr) (os:=os) (z:=z) (ups:=λfr=>fh []) (body:=λuq i src=>pz (cx P (cT l ns) cQ ao) uq i src) (turn:=λuq i v=>pq (cx P (cT l ns) cQ ao) uq i v) (fz:=fz) (iv:=bD) (f:=λx=>[bD ((kT x 80).toNat:Nat)]) (l:=xs) (λ_ _ _=>rfl) hz hf (by rw [pK];exact ai hl (ak rfl))
  (λz' hz' a ha iz c9 xs h1 h2 hN=>by
   have hacc:os.length∉z':=λq=>aX _ (hz' _ q);have m1:=λ(c:Cx) fr (os:List O)=>mod_int (z:=z') (x:=a) (y:=80) (k:=(kT a 80).toNat) (by decide) (by have:=tQ a (b:=80) (by decide);exact (vY this).symm) (c:=c) fr os;have p1:=λ(c:Cx) fr=>g8 (c:=c) h2 hacc hN (.int ((kT a 80).toNat:Nat)) fr;refine ⟨putF iz "x" (.int a),c9.set os.length (.list (xs++ [.int ((kT a 80).toNat:Nat)])),?_,dA h2,h1.trans (Hi.set (ax _) _)⟩;(delta pq;with_reducible repeat' (first|apply m1|apply p1|exact dR _ _ _|exact br|apply bt|apply bq|apply bG|apply bO|exact aE|apply av (by decide)|exact bb|apply bh (by decide)|exact aI|apply aO|exact bA|(apply b8;apply bX)|(apply bW;focus rfl)|rfl)))) λos' e g1 g2=>?_
 exact ⟨os',e,by rw [g1,pL,dw];rfl,g2⟩
theorem Ih(h1:l≠160)(h2:l≠149)(hz:∀j∈z,j<os.length):∃os' r,cN P (cT l ns) (n+1) (.top 210) [.top l] os z=af (.ret (.ref r),os')/\Hi os.length os os'/\os'[r]? =af (.list ((GD ns).map λ(k:Nat)=>bD k)):=by
 rw [Ci];obtain ⟨cQ,hc⟩:∃c,cx P (cT l ns) c ao=cy P (cT l ns) n:=⟨_,rfl⟩;rw [←hc];have s1:=λfr=>rS (c:=cx P (cT l ns) cQ ao) (z:=z) (fr:=fr) (os:=os) (a:=.none) (b:=.int ((12:Nat):Int)) (s:=.none) (λfr=>Qk (Zc rfl h1 h2) z _) (Ww _ 12) (by rw [fy];exact ai (eV _ _) (ak rfl));rw [←wF] at s1;have s1':∀fr,lu (cx P (cT l ns) cQ ao) (.top l) .none (.int 12) .none z ⟨fr,os⟩=_:=s1;have tl:(ns.take 12).length<=12:=by rw [fy];exact eV _ _
 have hi0:Hi os.length os (os++ [.list ((ns.take 12).map .int)]):=Hi.grow (ax _) _;have g0:(os++ [cA ((ns.take 12).map .int)])[os.length]? =af (.list ((ns.take 12).map .int)):=cL;have s2:=λfr=>src_list (P:=P) (aj:=cT l ns) (cQ:=cQ) (z:=z) (fr:=fr) g0;refine cO (Ri (P:=P) (l:=l) (ns:=ns) (cQ:=cQ) (z:=z) (os:=os++ [.list ((ns.take 12).map .int)]) (fr:=[(ah "script",.top l)]) (fz:=af os.length) (xs:=ns.take 12) (λj hj=>ag (hz j hj) hi0.len) (λj hj=>by injection hj with hj;subst hj;exact aY g0) (ai tl (ak rfl))) λc9 e1 g1 k1=>?_;have ha:=λfr=>dQ (o:=.list [.int 9,.int 72,.int 4,.int 18,.int 5,.int 15,.int 6,.int 75,.int 61,.int 64,.int 66,.int 2]) rfl z fr c9;have g2:(c9++ [cA [.int 9,.int 72,.int 4,.int 18,.int 5,.int 15,.int 6,.int 75,.int 61,.int 64,.int 66,.int 2]])[c9.length]? =af (.list (Ie.map λ(k:Nat)=>bD k)):=cL;have GF:=bI (l:=[cA [.int 9,.int 72,.int 4,.int 18,.int 5,.int 15,.int 6,.int 75,.int 61,.int 64,.int 66,.int 2]]) g1;have c1:=λfr=>Jl (P:=P) (aj:=cT l ns) (cQ:=cQ) (z:=z) (fr:=fr) (.inl GF);rw [aH,aH] at c1;have s3:=λfr=>rS (c:=cx P (cT l ns) cQ ao) (z:=z) (fr:=fr) (a:=.int ((ns.take 12).length:Nat)) (b:=.none) (s:=.none) (eC g2 z) (D8 (Ie.map λ(k:Nat)=>bD k) (ns.take 12).length) (by rw [kA,aH];show 12-_<=1000000;exact ai (BU _ _) (ak rfl));have p1:=λfr=>add_lists (c:=cx P (cT l ns) cQ ao) (z:=z) (bI (l:=[cA ((Ie.map λ(k:Nat)=>bD k).drop (ns.take 12).length)]) GF) cL (by rw [aH,aH,kA,aH];show _+(12-_)<=_;exact qi (ar (fG tl)) rfl) fr;have e:((ns.take 12).map (λx=>(kT x 80).toNat)).map (λ(k:Nat)=>bD k)++(Ie.map λ(k:Nat)=>bD k).drop (ns.take 12).length=(GD ns).map λ(k:Nat)=>bD k:=by
  unfold GD;rw [cw,nq]
 rw [e] at p1;have hi1:=hi0.Lq k1;refine ⟨_,_,gz (fr:=[(ah "script",.top l),(ah "draws",.ref (os++ [cA ((ns.take 12).map .int)]).length)]) (os:=c9++ [.list [.int 9,.int 72,.int 4,.int 18,.int 5,.int 15,.int 6,.int 75,.int 61,.int 64,.int 66,.int 2]]++ [.list ((Ie.map λ(k:Nat)=>bD k).drop (ns.take 12).length)]++ [.list ((GD ns).map λ(k:Nat)=>bD k)]) ?_,?_,cL⟩
 ·(delta xS;with_reducible repeat' (first|apply s1'|apply s2|apply e1|apply ha|apply c1|apply s3|apply p1|apply fe|(apply fP (by decide))|exact dR _ _ _|exact br|apply bt|apply bq|apply bG|apply bO|exact aE|apply av (by decide)|exact bb|apply bh (by decide)|exact aI|apply aO|exact bA|(apply b8;apply bX)|(apply bW;focus rfl)|rfl))
 ·have l1:=hi1.len;exact ((hi1.trans (Hi.grow (l1) _)).trans (Hi.grow (by rw [aq];exact ai l1 (aF _ _)) _)).trans (Hi.grow (by rw [aq,aq];exact ai (ai l1 (aF _ _)) (aF _ _)) _)
def WrR(b:Nat)(os:List O)(d:Nat)(v:V):Prop:=∃r,v= .ref r/\r≠b/\os[r]? =af (nH (Ig d) (C6 d))
theorem Rj:ka (Kw P) (.ref 217)=ao:=by kernel_rfl
theorem Rk:ka (Kw P) (.ref 210)=ao:=by kernel_rfl
theorem Rl:ka (Kw P) (.ref 222)=ao:=by kernel_rfl
theorem Rm:ka (Kw P) (.ref 234)=ao:=by kernel_rfl
theorem Rn:ka (Kw P) (.ref 249)=ao:=by kernel_rfl
theorem WZ{D:List Nat}(hD:∀d∈D,d<80)(hz:∀j∈z,j<os.length)(hf:∀j,fz=af j->j<os.length)(hl:D.length<=100):
  ∃os' vs,fg (λfr=>fh []) (λuq i src=>Ja (cy P (cT l ns) (n+1)) uq i src) ⟨D.map λ(k:Nat)=>bD k,fz⟩ z ⟨fr,os⟩=af (.ref os.length,⟨fr,os'⟩)/\os'[os.length]? =af (.list vs)/\vs.length=D.length/\(∀(k:Nat) a,D[k]? =af a->∃v,vs[k]? =af v/\WrR os.length os' a v)/\Hi os.length os os':=
 Gd (turn:=λuq i v=>DO (cy P (cT l ns) (n+1)) uq i v) (iv:=λ(k:Nat)=>bD k) (R:=WrR os.length) (λ_ _ _=>rfl) hz hf (ai hl (ak rfl))
  (λc9 dc a v k ⟨r,e,h1,h2⟩=>⟨r,e,h1,(k r h1 (aY h2)).trans h2⟩)
  (λz' hz' a ha iz c9 xs h1 h2 hN=>by
   have hacc:os.length∉z':=λq=>aX _ (hz' _ q);have Cq:=aY h2;have had:=hD a ha;refine ck (Et (P:=P) (aj:=cT l ns) (z:=z') (os:=c9) (n:=n) (e:=a%8) (k:=a/8) (xo _ (ak rfl)) (kg had)) λdc r e1 k1 g1=>?_;rw [show 8*(a/8)+a%8=a from Nat.div_add_mod _ _] at e1;have c1:=λfr as=>gW (P:=P) (aj:=cT l ns) (cQ:=cN P (cT l ns) (n+1)) (z:=z') (fr:=fr) (os:=c9) (as:=as) Rj;have h2':=k1.at Cq h2;have p1:=λ(c:Cx) fr=>g8 (c:=c) h2' hacc hN (.ref r) fr;have hr:r≠os.length:=λq=>by subst q;rw [h2'] at g1;cases g1
   refine ⟨putF iz "draw" (.int (a:Nat)),dc.set os.length (.list (xs++ [.ref r])),.ref r,?_,dA h2',⟨r,rfl,hr,bC g1 λq=>hr q.symm⟩,λj hj hl=>(bH λq=>hj q.symm).trans (k1.keep j hl),by rw [dI];exact k1.len⟩;(delta DO;with_reducible repeat' (first|(apply gE;apply c1)|apply e1|apply p1|exact dR _ _ _|exact br|apply bt|apply bq|apply bG|apply bO|exact aE|apply av (by decide)|exact bb|apply bh (by decide)|exact aI|apply aO|exact bA|(apply b8;apply bX)|(apply bW;focus rfl)|rfl)))
theorem BH{c:Nat}{w:Str}(e:v= .ref r)(ht:os[r]? =af (nH c w))(x:Cx):DL x [ah "sign",ah "word"] v z ⟨fr,os⟩=af ((),⟨putF (putF fr "sign" (.str (iH c))) "word" (.str w),os⟩):=by
 subst e;exact ba (eC ht z fr)
def Zd(b:Nat)(os:List O)(ps:List (V × Nat)):Prop:=∀p∈ps,∃r,p.1= .ref r/\r<b/\os[r]? =af (nH (Ig p.2) (C6 p.2))
theorem W0{ps:List (V × Nat)}(hp:Zd os.length os ps)(hz:∀j∈z,j<os.length)(hf:∀j,fz=af j->j<os.length)(hl:ps.length<=100):
  ∃os',fg (λfr=>fh []) (λuq i src=>DQ (cx P (cT l ns) cQ ao) uq i src) ⟨ps.map (·.1),fz⟩ z ⟨fr,os⟩=af (.ref os.length,⟨fr,os'⟩)/\os'[os.length]? =af (.list ((ps.map λp=>C6 p.2).map .str))/\Hi os.length os os':=by
 refine cO (iV (fr:=fr) (os:=os) (z:=z) (ups:=λfr=>fh []) (body:=λuq i src=>DQ (cx P (cT l ns) cQ ao) uq i src) (turn:=λuq i v=>DP (cx P (cT l ns) cQ ao) uq i v) (fz:=fz) (iv:=GA) (f:=λp=>[bc (C6 p.2)]) (l:=ps) (λ_ _ _=>rfl) hz hf (by rw [pK];exact ai hl (ak rfl))
  (λz' hz' a ha iz c9 xs h1 h2 hN=>by
   have hacc:os.length∉z':=λq=>aX _ (hz' _ q);obtain ⟨r,e,hr,ht⟩:=hp a ha;have u1:=λ(c:Cx) fr=>BH (z:=z') (fr:=fr) e (h1.at hr ht) c;have p1:=λ(c:Cx) fr=>g8 (c:=c) h2 hacc hN (.str (C6 a.2)) fr;refine ⟨putF (putF iz "sign" (.str (iH (Ig a.2)))) "word" (.str (C6 a.2)),c9.set os.length (.list (xs++ [.str (C6 a.2)])),?_,dA h2,h1.trans (Hi.set (ax _) _)⟩;(delta DP;with_reducible repeat' (first|apply u1|apply p1|exact dR _ _ _|exact br|apply bt|apply bq|apply bG|apply bO|exact aE|apply av (by decide)|exact bb|apply bh (by decide)|exact aI|apply aO|exact bA|(apply b8;apply bX)|(apply bW;focus rfl)|rfl)))) λos' e g1 g2=>?_
 exact ⟨os',e,by rw [g1,pL,dw];rfl,g2⟩
theorem W2{ps:List (V × Nat)}(hp:Zd os.length os ps)(hz:∀j∈z,j<os.length)(hf:∀j,fz=af j->j<os.length)(hl:ps.length<=100):
  ∃os',fg (λfr=>fh []) (λuq i src=>DV (cx P (cT l ns) cQ ao) uq i src) ⟨ps.map (·.1),fz⟩ z ⟨fr,os⟩=af (.ref os.length,⟨fr,os'⟩)/\os'[os.length]? =af (.list ((ps.map λp=>iH (Ig p.2)).map .str))/\Hi os.length os os':=by
 refine cO (iV (fr:=fr) (os:=os) (z:=z) (ups:=λfr=>fh []) (body:=λuq i src=>DV (cx P (cT l ns) cQ ao) uq i src) (turn:=λuq i v=>DU (cx P (cT l ns) cQ ao) uq i v) (fz:=fz) (iv:=GA) (f:=λp=>[bc (iH (Ig p.2))]) (l:=ps) (λ_ _ _=>rfl) hz hf (by rw [pK];exact ai hl (ak rfl))
  (λz' hz' a ha iz c9 xs h1 h2 hN=>by
   have hacc:os.length∉z':=λq=>aX _ (hz' _ q);obtain ⟨r,e,hr,ht⟩:=hp a ha;have u1:=λ(c:Cx) fr=>BH (z:=z') (fr:=fr) e (h1.at hr ht) c;have p1:=λ(c:Cx) fr=>g8 (c:=c) h2 hacc hN (.str (iH (Ig a.2))) fr;refine ⟨putF (putF iz "sign" (.str (iH (Ig a.2)))) "word" (.str (C6 a.2)),c9.set os.length (.list (xs++ [.str (iH (Ig a.2))])),?_,dA h2,h1.trans (Hi.set (ax _) _)⟩;(delta DU;with_reducible repeat' (first|apply u1|(exact av (by decide) aE)|apply p1|exact dR _ _ _|exact br|apply bt|apply bq|apply bG|apply bO|exact aE|apply av (by decide)|exact bb|apply bh (by decide)|exact aI|apply aO|exact bA|(apply b8;apply bX)|(apply bW;focus rfl)|rfl)))) λos' e g1 g2=>?_
 exact ⟨os',e,by rw [g1,pL,dw];rfl,g2⟩
end
def T3(D:List Nat)(i:Nat):Str:=cZ (((D.drop i).take 3).map C6)
noncomputable def Ii:List Nat:=[0,3,6,9]
def tF(L:List Str)(x:Str):List Str:=lets (L.getD (bV.idxOf x) ⟨#[]⟩)
section
variable{l:bk}{ns:List Int}
theorem JF:dN (cx P (cT l ns) cQ ao) (.type "range") [.int 0,.int 12,.int 3] z ⟨fr,os⟩=af (.ret (.ref os.length),⟨fr,os++ [.range 0 12 3]⟩):=Ni (Qu.trans (K8 ⟨by decide,by decide⟩ (dQ (o:=.range 0 12 3) rfl z fr os)))
theorem Sh(h:os[i]? =af (.range 0 12 3)):gN (cx P (cT l ns) cQ ao) (.ref i) z ⟨fr,os⟩=af (⟨Ii.map λ(i:Nat)=>bD i,ae⟩,⟨fr,os⟩):=by
 refine (Bw h ⟨by decide,by kernel_rfl⟩).trans ?_;have e:qU 0 12 3=Ii.map λ(i:Nat)=>bD i:=by kernel_rfl
 rw [e]
def Yq(D:List Nat)(b:Nat)(os:List O)(w:Nat):Prop:=w<b/\∃vs,os[w]? =af (.list vs)/\vs.length=D.length/\∀(k:Nat) a,D[k]? =af a->∃r,r<b/\vs[k]? =af (.ref r)/\os[r]? =af (nH (Ig a) (C6 a))
theorem Gk{D:List Nat}{w:Nat}{c9:List O}(hv:vs.length=D.length)(hp:∀(k:Nat) a,D[k]? =af a->∃r,r<b/\vs[k]? =af (.ref r)/\os[r]? =af (nH (Ig a) (C6 a)))(hk:∀j,j<b->c9[j]? =os[j]?)(hb:b<=c9.length):Zd c9.length c9 (((vs.zip D).drop i).take 3)/\(((vs.zip D).drop i).take 3).map (·.1)=(vs.drop i).take 3/\(((vs.zip D).drop i).take 3).map (·.2)=(D.drop i).take 3:=by
 refine ⟨λp YC=>?_,?_,?_⟩
 ·obtain ⟨k,hk'⟩:=uk.mp (kf (nQ YC));obtain ⟨h1,h2⟩:=List.getElem?_zip_eq_some.mp hk';refine cO (hp k p.2 h2) λr h3 h4 h5=>?_;rw [h4] at h1;injection h1 with h1
  exact ⟨r,h1.symm,ag h3 hb,(hk r h3).trans h5⟩
 ·rw [wF,nq,List.map_fst_zip (ar hv)]
 ·rw [wF,nq,List.map_snd_zip (ar hv.symm)]
theorem OA(h:d<80):(C6 d).cps.toList.length<=3/\∀c∈(C6 d).cps.toList,c<1114112:=(Es (e:=d%8) (k:=d/8) (xo _ (ak rfl)) (kg h)).2.2
theorem Ro(ls:List Str):(cZ ls).cps.toList=ls.flatMap λs=>s.cps.toList:=by
 induction ls with
 |nil=>rfl
 |cons a ls ih=>
  show (a++cZ ls).cps.toList=_;rw [Jx,ih];rfl
theorem Si{D:List Nat}(hD:∀d∈D,d<80)(i:Nat):(T3 D i).cps.toList.length<=9/\∀c∈(T3 D i).cps.toList,c<1114112:=by
 unfold T3;rw [Ro];have hm:∀s∈((D.drop i).take 3).map C6,s.cps.toList.length<=3/\∀c∈s.cps.toList,c<1114112:=λs hs=>by
  refine aR (aT.mp hs) λd hd q'1=>?_;obtain rfl:=q'1;exact OA (hD d (kf (nQ hd)))
 have hl:(((D.drop i).take 3).map C6).length<=3:=by rw [aH,fy];exact eV _ _
 refine ⟨?_,λc hc=>?_⟩
 ·have:∀ls:List Str,(∀s∈ls,s.cps.toList.length<=3)->(ls.flatMap λs=>s.cps.toList).length<=3*ls.length:=by
   intro ls;induction ls with
   |nil=>exact λ_=>ax _
   |cons a ls ih=>
    intro h;have h1:=h a (fm ..);have h2:=ih λs hs=>h s (i8 _ hs);rw [bz,aq,aU];exact VC h1 h2
  have:=this _ λs hs=>(hm s hs).1;exact ai this (df 3 hl)
 ·refine aR (cJ.mp hc) λs hs hc=>?_;exact (hm s hs).2 c hc
theorem JG{D:List Nat}(hD:∀d∈D,d<80)(i:Nat):(T3 D i).cps.size<=9:=by have:=(Si hD i).1;rwa [cj] at this
theorem is_le:∀i∈Ii,i+3<=12:=by decide
theorem W3{D:List Nat}{w:Nat}(hD:∀d∈D,d<80)(Vh:D.length=12)(hw:Yq D os.length os w)(hz:∀j∈z,j<os.length)(hf:getF fr "written" =af (.ref w)):
  ∃os',fg (λfr=>fh [(ah "written",getF fr "written")]) (λuq i src=>DT (cx P (cT l ns) cQ ao) uq i src) ⟨Ii.map λ(i:Nat)=>bD i,ae⟩ z ⟨fr,os⟩=af (.ref os.length,⟨fr,os'⟩)/\os'[os.length]? =af (.list ((Ii.map (T3 D)).map .str))/\Hi os.length os os':=by
 refine d7 hw λw0 r'2=>?_;refine cO r'2 λvs hv1 hv2 Vd=>?_;refine cO (iV (fr:=fr) (os:=os) (z:=z) (ups:=λfr=>fh [(ah "written",getF fr "written")]) (body:=λuq i src=>DT (cx P (cT l ns) cQ ao) uq i src) (turn:=λuq i v=>DR (cx P (cT l ns) cQ ao) uq i v) (fz:=none) (iv:=λ(i:Nat)=>bD i) (f:=λi=>[bc (T3 D i)]) (l:=Ii) (λ_ _ _=>rfl) hz (λ_ h=>by injection h) (by rw [pK];decide)
  (λz' hz' a ha iz c9 xs h1 h2 hN=>by
   have hacc:os.length∉z':=λq=>aX _ (hz' _ q);have Cq:=aY h2;have u1:getF (fh [(ah "written",getF fr "written")]) "written" =af (.ref w):=by rw [hf];exact bb
   have l1:=λs=>iL (z:=z') (s:=s) u1;have Vi:=h1.at w0 hv1;have s1:∀(c:Cx) fr,lu c (.ref w) (.int (a:Nat)) (.int (((a:Nat):Int)+3)) .none z' ⟨fr,c9⟩=af (.ref c9.length,⟨fr,c9++ [.list ((vs.drop a).take (a+3-a))]⟩):=λc fr=>rS (c:=c) (z:=z') (fr:=fr) (o:=.ref w) (λfr=>eC Vi z' fr) (Nt vs (i:=a) (j:=a+3) (aF _ _) (ai (ai (is_le a ha) (ar Vh.symm)) (ar hv2.symm))) (by rw [fy];exact qi (ai (eV _ _) (ar (dO _ 3))) rfl);rw [show a+3-a=3 from dO _ _] at s1;obtain ⟨p1,p2,p3⟩:=Gk (i:=a) (c9:=c9++ [.list ((vs.drop a).take 3)]) (w:=w) hv2 Vd (λj hj=>(aJ (aD hj Cq)).trans (h1.keep j hj)) (by rw [aq];exact bS (ag Cq (aF _ _)));have g0:(c9++ [cA ((vs.drop a).take 3)])[c9.length]? =af (.list ((vs.drop a).take 3)):=cL;have s2:=λfr=>src_list (P:=P) (aj:=cT l ns) (cQ:=cQ) (z:=z') (fr:=fr) g0;obtain ⟨dc,e2,b1,b2⟩:=W0 (P:=P) (l:=l) (ns:=ns) (cQ:=cQ) (z:=z') (os:=c9++ [.list ((vs.drop a).take 3)]) (fr:=putF iz "i" (.int (a:Nat))) (ps:=((vs.zip D).drop a).take 3) (fz:=af c9.length) p1 (λj hj=>by have:=hz' j hj;rw [aq];exact ag (aD this Cq) (aF _ _)) (λj hj=>by injection hj with hj;subst hj;exact aY g0) (by rw [fy];exact ai (eV _ _) (ak rfl));rw [p2] at e2;have eb:(((vs.zip D).drop a).take 3).map (λp=>C6 p.2)=((D.drop a).take 3).map C6:=by rw [←p3,dw];rfl
   rw [eb] at b1;have m1:=λ(c:Cx) fr=>rr (c:=c) (z:=z') (fr:=fr) (os:=c9) (x:=ah "") vI;have j1:=λ(c:Cx) fr=>zb (c:=c) (z:=z') (fr:=fr) b1 (by have:=JG hD a;unfold T3 at this;exact ai this (ak rfl));have hi:Hi os.length os dc:=(h1.trans (Hi.grow ((h1.len)) _)).trans ⟨b2.len,λj hj=>b2.keep j (by rw [aq];exact ag (aD hj Cq) (aF _ _))⟩;have h3:dc[os.length]? =af (.list xs):=b2.at (by rw [aq];exact ag Cq (aF _ _)) (bI h2);have q1:=λ(c:Cx) fr=>g8 (c:=c) h3 hacc hN (.str (T3 D a)) fr;refine ⟨putF iz "i" (.int (a:Nat)),dc.set os.length (.list (xs++ [.str (T3 D a)])),?_,dA h3,hi.trans (Hi.set (ax _) _)⟩;have OD:∀(c:Cx) fr,i4 c os.length (.str (cZ (((D.drop a).take 3).map C6))) z' ⟨fr,dc⟩=af ((),⟨fr,dc.set os.length (.list (xs++ [.str (T3 D a)]))⟩):=q1;(delta DR;with_reducible repeat' (first|apply l1|apply add_int|apply s1|apply s2|apply e2|apply m1|apply j1|apply OD|exact dR _ _ _|exact br|apply bt|apply bq|apply bG|apply bO|exact aE|apply av (by decide)|exact bb|apply bh (by decide)|exact aI|apply aO|exact bA|(apply b8;apply bX)|(apply bW;focus rfl)|rfl)))) λos' e g1 g2=>?_
 exact ⟨os',e,by rw [g1,pL,dw];rfl,g2⟩
theorem UO{D:List Nat}{w:Nat}(hD:∀d∈D,d<80)(Vh:D.length=12)(hw:Yq D os.length os w)(hz:∀j∈z,j<os.length)(hf:getF fr "written" =af (.ref w)):
  ∃os',fg (λfr=>fh [(ah "written",getF fr "written")]) (λuq i src=>Bc (cy P (cT l ns) (n+2)) uq i src) ⟨Ii.map λ(i:Nat)=>bD i,ae⟩ z ⟨fr,os⟩=af (.ref os.length,⟨fr,os'⟩)/\os'[os.length]? =af (.list ((Ii.map (T3 D)).map .str))/\Hi os.length os os':=by
 obtain ⟨w0,vs,hv1,hv2,Vd⟩:=hw;refine cO (iV (fr:=fr) (os:=os) (z:=z) (ups:=λfr=>fh [(ah "written",getF fr "written")]) (body:=λuq i src=>Bc (cy P (cT l ns) (n+2)) uq i src) (turn:=λuq i v=>DW (cy P (cT l ns) (n+2)) uq i v) (fz:=none) (iv:=λ(i:Nat)=>bD i) (f:=λi=>[bc (T3 D i)]) (l:=Ii) (λ_ _ _=>rfl) hz (λ_ h=>by injection h) (by rw [pK];decide)
  (λz' hz' a ha iz c9 xs h1 h2 hN=>by
   have hacc:os.length∉z':=λq=>aX _ (hz' _ q);have Cq:=aY h2;have u1:getF (fh [(ah "written",getF fr "written")]) "written" =af (.ref w):=by rw [hf];exact bb
   have l1:=λs=>iL (z:=z') (s:=s) u1;have Vi:=h1.at w0 hv1;have s1:∀(c:Cx) fr,lu c (.ref w) (.int (a:Nat)) (.int (((a:Nat):Int)+3)) .none z' ⟨fr,c9⟩=af (.ref c9.length,⟨fr,c9++ [.list ((vs.drop a).take (a+3-a))]⟩):=λc fr=>rS (c:=c) (z:=z') (fr:=fr) (o:=.ref w) (λfr=>eC Vi z' fr) (Nt vs (i:=a) (j:=a+3) (aF _ _) (ai (ai (is_le a ha) (ar Vh.symm)) (ar hv2.symm))) (by rw [fy];exact qi (ai (eV _ _) (ar (dO _ 3))) rfl);rw [show a+3-a=3 from dO _ _] at s1;obtain ⟨p1,p2,p3⟩:=Gk (i:=a) (c9:=c9++ [.list ((vs.drop a).take 3)]) (w:=w) hv2 Vd (λj hj=>(aJ (aD hj Cq)).trans (h1.keep j hj)) (by rw [aq];exact bS (ag Cq (aF _ _)));have g0:(c9++ [cA ((vs.drop a).take 3)])[c9.length]? =af (.list ((vs.drop a).take 3)):=cL;have s2:=λfr=>src_list (P:=P) (aj:=cT l ns) (cQ:=cN P (cT l ns) (n+2)) (z:=z') (fr:=fr) g0;obtain ⟨dc,e2,b1,b2⟩:=W2 (P:=P) (l:=l) (ns:=ns) (cQ:=cN P (cT l ns) (n+2)) (z:=z') (os:=c9++ [.list ((vs.drop a).take 3)]) (fr:=putF iz "i" (.int (a:Nat))) (ps:=((vs.zip D).drop a).take 3) (fz:=af c9.length) p1 (λj hj=>by have:=hz' j hj;rw [aq];exact ag (aD this Cq) (aF _ _)) (λj hj=>by injection hj with hj;subst hj;exact aY g0) (by rw [fy];exact ai (eV _ _) (ak rfl));rw [p2] at e2;have eb:(((vs.zip D).drop a).take 3).map (λp=>iH (Ig p.2))=(((D.drop a).take 3).map Ig).map iH:=by rw [←p3,dw,dw];rfl
   rw [eb] at b1;have hd:∀d∈(D.drop a).take 3,d<80:=λd hd=>hD d (kf (nQ hd));have h3l:((D.drop a).take 3).length<=3:=by rw [fy];exact eV _ _
   have hsg:∀c∈((D.drop a).take 3).map Ig,c<1114112:=λc hc=>by
    obtain ⟨d,hd',rfl⟩:=aT.mp hc;have:=hd d hd';exact (Es (e:=d%8) (k:=d/8) (xo _ (ak rfl)) (kg this)).2.1
   have hfo:(((D.drop a).take 3).map Ig).map ye=((D.drop a).take 3).map C6:=by
    rw [dw];exact d9 λd hd'=>(Es (e:=d%8) (k:=d/8) (by have:=hd d hd';exact xo _ (ak rfl)) (by have:=hd d hd';exact kg this)).1
   have m1:=λ(c:Cx) fr=>rr (c:=c) (z:=z') (fr:=fr) (os:=c9) (x:=ah "") vI;have j1:=λ(c:Cx) fr=>zb (c:=c) (z:=z') (fr:=fr) b1 (by
    rw [rW λy hy=>by
     obtain ⟨c,hc,rfl⟩:=aT.mp hy;exact ⟨c,hsg c hc,rfl⟩,aH,aH]
    exact ai h3l (ak rfl))
   have lz:∀j∈z',j<dc.length:=λj hj=>by have b:=b2.len;rw [aq] at b;exact ag (aD (hz' j hj) Cq) (ai (aF _ _) b)
   obtain ⟨iI,e3,k3⟩:=Lj (P:=P) (l:=l) (ns:=ns) (z:=z') (n:=n) (os:=dc) (cs:=((D.drop a).take 3).map Ig) lz hsg (by rw [aH];exact ai h3l (ak rfl)) (by rw [hfo];have:=JG hD a;unfold T3 at this;exact ai this (ak rfl));rw [hfo] at e3;have c3:=λfr as=>gW (P:=P) (aj:=cT l ns) (cQ:=cN P (cT l ns) (n+2)) (z:=z') (fr:=fr) (os:=dc) (as:=as) Rl;have hi:Hi os.length os dc:=(h1.trans (Hi.grow ((h1.len)) _)).trans ⟨b2.len,λj hj=>b2.keep j (by rw [aq];exact ag (aD hj Cq) (aF _ _))⟩;have h3:dc[os.length]? =af (.list xs):=b2.at (by rw [aq];exact ag Cq (aF _ _)) (bI h2);have h4:iI[os.length]? =af (.list xs):=k3.at (aY h3) h3;have q1:=λ(c:Cx) fr=>g8 (c:=c) h4 hacc hN (.str (T3 D a)) fr;refine ⟨putF iz "i" (.int (a:Nat)),iI.set os.length (.list (xs++ [.str (T3 D a)])),?_,dA h4,(hi.Lq k3).trans (Hi.set (ax _) _)⟩;have OD:∀(c:Cx) fr,i4 c os.length (.str (cZ (((D.drop a).take 3).map C6))) z' ⟨fr,iI⟩=af ((),⟨fr,iI.set os.length (.list (xs++ [.str (T3 D a)]))⟩):=q1;(delta DW;with_reducible repeat' (first|apply l1|apply add_int|apply s1|apply s2|apply e2|apply m1|apply j1|(apply gE;apply c3)|apply e3|apply OD|exact dR _ _ _|exact br|apply bt|apply bq|apply bG|apply bO|exact aE|apply av (by decide)|exact bb|apply bh (by decide)|exact aI|apply aO|exact bA|(apply b8;apply bX)|(apply bW;focus rfl)|rfl)))) λos' e g1 g2=>?_
 exact ⟨os',e,by rw [g1,pL,dw];rfl,g2⟩
theorem W4(hl:L.length=4)(h:∀s∈L,s.cps.toList.length<=9/\∀c∈s.cps.toList,c<1114112):Tx (tF L)/\BB (tF L)=L.map .str:=by
 have hx:∀x∈bV,L.getD (bV.idxOf x) ⟨#[]⟩∈L:=λx hx=>by
  have:bV.idxOf x<L.length:=by rw [hl];exact List.idxOf_lt_length_of_mem hx
  rw [qh,di this];exact rZ this
 refine ⟨⟨λx hx' y hy=>?_,λx hx'=>?_⟩,?_⟩
 ·refine aR (aT.mp hy) λc hc q'6=>?_;obtain rfl:=q'6;exact ⟨c,(h _ (hx x hx')).2 c hc,rfl⟩
 ·show (sH iH _).length<=9;rw [aH];exact (h _ (hx x hx')).1
 ·unfold BB tF;have:∀x,bc (cZ (lets (L.getD (bV.idxOf x) ⟨#[]⟩)))=bc (L.getD (bV.idxOf x) ⟨#[]⟩):=λx=>by rw [Oy]
  rw [d9 λx _=>this x];rcases L with _|⟨a,_|⟨b,_|⟨c,_|⟨d,_|⟨e,L⟩⟩⟩⟩⟩
  ·simp at hl
  ·simp at hl
  ·simp at hl
  ·simp at hl
  ·rfl
  ·simp at hl
theorem OB(h1:l≠160)(h2:l≠149):∃os',cN P (cT l ns) (n+5) (.top 254) [.top l] [] []=af (.ret (.bool ao),os'):=by
 rw [T8];have hz:∀(os:List O),∀j∈([]:List Nat),j<os.length:=λ_ j hj=>absurd hj aV;have hD:=UN (ns:=ns);have Vh:=Rh (ns:=ns);refine ck (Ih (P:=P) (l:=l) (ns:=ns) (z:=[]) (n:=n+3) (os:=[]) h1 h2 (hz _)) λc9 r1 e1 k1 g1=>?_;have c1:=λfr os as=>gW (P:=P) (aj:=cT l ns) (cQ:=cN P (cT l ns) (n+4)) (z:=[]) (fr:=fr) (os:=os) (as:=as) Rk;have s1:=λfr=>src_list (P:=P) (aj:=cT l ns) (cQ:=cN P (cT l ns) (n+4)) (z:=[]) (fr:=fr) g1;refine dD (WZ (P:=P) (l:=l) (ns:=ns) (z:=[]) (n:=n+3) (os:=c9) (fr:=[(ah "script",.top l),(ah "draws",.ref r1)]) (D:=GD ns) (fz:=af r1) hD (hz _) (λj hj=>by injection hj with hj;subst hj;exact aY g1) (ai (ar Vh) (ak rfl))) λdc vs e2 g2 n2 o2 k2=>?_;have hw:Yq (GD ns) dc.length dc c9.length:=⟨aY g2,vs,g2,n2,λk a e=>by
  refine aR (o2 k a e) λv hv r'7=>?_;refine cO r'7 λr q1 q2 q3=>?_;subst q1;exact ⟨r,aY q3,hv,q3⟩⟩
 have SI:∀os',Hi dc.length dc os'->Yq (GD ns) os'.length os' c9.length:=λos' hi=>by
  refine d7 hw λa r'8=>?_;refine cO r'8 λvs b c d=>?_;refine ⟨ag a hi.len,vs,hi.at a b,c,λk x e=>?_⟩;refine cO (d k x e) λr q1 q2 q3=>?_;exact ⟨r,ag q1 hi.len,q2,hi.at q1 q3⟩
 have r3:=λfr=>JF (P:=P) (l:=l) (ns:=ns) (cQ:=cN P (cT l ns) (n+4)) (z:=[]) (fr:=fr) (os:=dc);have s3:=λfr=>Sh (P:=P) (l:=l) (ns:=ns) (cQ:=cN P (cT l ns) (n+4)) (z:=[]) (fr:=fr) (cL:(dc++ [dB 0 12 3])[dc.length]? =af (.range 0 12 3));have X8:Hi dc.length dc (dc++ [.range 0 12 3]):=Hi.grow (ax _) _;refine cO (W3 (P:=P) (l:=l) (ns:=ns) (cQ:=cN P (cT l ns) (n+4)) (z:=[]) (os:=dc++ [.range 0 12 3]) (fr:=[(ah "script",.top l),(ah "draws",.ref r1),(ah "written",.ref c9.length)]) hD Vh (SI _ X8) (hz _) (bh (by decide) (bh (by decide) bb))) λiI e3 g3 k3=>?_;have aaf:=X8.Lq k3;have r4:=λfr=>JF (P:=P) (l:=l) (ns:=ns) (cQ:=cN P (cT l ns) (n+4)) (z:=[]) (fr:=fr) (os:=iI);have s4:=λfr=>Sh (P:=P) (l:=l) (ns:=ns) (cQ:=cN P (cT l ns) (n+4)) (z:=[]) (fr:=fr) (cL:(iI++ [dB 0 12 3])[iI.length]? =af (.range 0 12 3));have Vx:Hi iI.length iI (iI++ [.range 0 12 3]):=Hi.grow (ax _) _;refine cO (UO (P:=P) (l:=l) (ns:=ns) (z:=[]) (n:=n+2) (os:=iI++ [.range 0 12 3]) (fr:=[(ah "script",.top l),(ah "draws",.ref r1),(ah "written",.ref c9.length),(ah "texts",.ref (dc++ [dB 0 12 3]).length)]) hD Vh (SI _ (aaf.Lq Vx)) (hz _) (bh (by decide) (bh (by decide) bb))) λyg e4 g4 k4=>?_;have aag:=Vx.Lq k4;have Vt:yg[(dc++ [dB 0 12 3]).length]? =af (.list ((Ii.map (T3 (GD ns))).map .str)):=aag.at (aY g3) g3;have hT:∀s∈Ii.map (T3 (GD ns)),s.cps.toList.length<=9/\∀c∈s.cps.toList,c<1114112:=λs hs=>by
  refine aR (aT.mp hs) λi _ q'9=>?_;obtain rfl:=q'9;exact Si hD i
 have hok:∀s∈Ii.map (T3 (GD ns)),eO s=ao:=λs hs=>by
  unfold eO;rw [←zv];exact bK.mpr λc hc=>decide_eq_true ((hT s hs).2 c hc)
 have q4:EL yg (.ref (iI++ [dB 0 12 3]).length) (.ref (dc++ [dB 0 12 3]).length)=af ao:=Ak (kq (n:=7) g4) (kq (n:=7) Vt) (rV hok) (by show dJ _+1<=20;rw [mM];decide);obtain ⟨tx,etx⟩:=W4 (L:=Ii.map (T3 (GD ns))) rfl hT;rw [←etx] at g4 Vt;refine dy (Ot (P:=P) (aj:=cT l ns) (z:=[]) (n:=n) (os:=yg) tx (hz _) g4) λEF d5 K e5 k5 hK hne SG aah=>?_;have c5:=λfr as=>gW (P:=P) (aj:=cT l ns) (cQ:=cN P (cT l ns) (n+4)) (z:=[]) (fr:=fr) (os:=yg) (as:=as) Rm;refine ck (Og (P:=P) (aj:=cT l ns) (z:=[]) (n:=n+2) (os:=EF) tx (hz _) (k5.at (aY Vt) Vt)) λsL d6 e6 k6 aai=>?_;have c6:=λfr as=>gW (P:=P) (aj:=cT l ns) (cQ:=cN P (cT l ns) (n+4)) (z:=[]) (fr:=fr) (os:=EF) (as:=as) Rn;refine cW (Ow (t:=tF (Ii.map (T3 (GD ns)))) hK hne SG) λed1 ed2 ed3=>?_;have SJ:=aah.keep k6;rw [ed1] at SJ;have hnd:(dK (tF (Ii.map (T3 (GD ns)))) (cb 0 4)).Nodup:=BD (qR ..);obtain ⟨q7,q8⟩:=Ov SJ aai (λl hl x hx=>by
  refine aR (aT.mp (bL.mp hl).1) λk _ q'10=>?_;obtain rfl:=q'10;exact N7 (nF (zM hx).1)) (by rw [Ep,Ep];exact ((qg ed3 hnd).mpr ed2).length_eq) (bK.mpr λp hp=>by
  refine aR (aT.mp hp) λx hx q'11=>?_;obtain rfl:=q'11;rw [JC ((ed2 x).mp hx)];simp)
 refine ⟨sL,gz (fr:=[(ah "script",.top l),(ah "draws",.ref r1),(ah "written",.ref c9.length),(ah "texts",.ref (dc++ [dB 0 12 3]).length),(ah "told",.ref (iI++ [dB 0 12 3]).length)]) ?_⟩;(delta R1 FE FD Fz Fy Fx;with_reducible repeat' (first|(apply gE;apply c1)|apply e1|apply s1|apply e2|apply r3|apply s3|apply e3|apply r4|apply s4|apply e4|(apply yZ;exact q4)|(apply ite_no;focus exact Ut)|(apply gE;apply c5)|apply e5|(apply gE;apply c6)|apply e6|exact Qn q7 q8|apply fe|exact oB|(apply fP (by decide))|exact dR _ _ _|exact br|apply bt|apply bq|apply bG|apply bO|exact aE|apply av (by decide)|exact bb|apply bh (by decide)|exact aI|apply aO|exact bA|(apply b8;apply bX)|(apply bW;focus rfl)|rfl))
theorem holds02:dU.Holds:=T7 λP l ns h1 h2 _=>OB (n:=15) h1 h2
end
end
end Mine.Internal
theorem PySem.Challenge.cw_nb0314_02_holds : PySem.Challenge.rw_nb0314_02.Holds :=
  Mine.Internal.holds02
