import PyProof.Rows.All
import Wide.All
import OpenK.AllK
import Wide.FinOn
import KE.KRevSl
import KE.KEqDict
import Lean
import PySem.Challenge.RW_nb0314_02
open PySem PySem.W PyProof.Rows
set_option Elab.async false
set_option linter.unusedVariables false
set_option linter.unusedSimpArgs false
set_option maxRecDepth 100000
set_option maxHeartbeats 8000000
set_option bootstrap.genMatcherCode false
set_option genSizeOf false
set_option genInjectivity false
namespace Mine.Internal
noncomputable section
open _root_.And renaming intro->zg
open _root_.Array renaming toList_append->oj, size_append->lV, mem_toList_iff->vg, any_toList->ze, isEmpty->Cq, isEmpty_iff->yr, length_toList->cj, getElem?_toList->cS, replicate->hY, getElem?_setIfInBounds->nY, getElem?_eq_some_iff->dM, append_empty->pW, empty_append->pX, append_assoc->xa, size->BM, getElem?_setIfInBounds_ne->mu, mk->GB, all_toList->zt
open _root_.Bool renaming and_eq_true->aS, or_eq_true->ez, casesOn->cF, false_eq_true->dw, or_false->Cr, not_eq_true'->lY, not_eq_false->yx, eq_false_iff->yA, false_ne_true->bh, and_eq_true_iff->vm, not_true->iG, not_false->gZ, true->ao, false->bc
open _root_.Char renaming toNat->xg
open _root_.Decidable renaming not_not->yy
open _root_.Exists renaming elim->ei
open _root_.ForInStep renaming yield->dE
open _root_.Int renaming lt_of_le_of_lt->lA, ofNat_le->jd, le_trans->je, add_comm->yg, natAbs_of_nonneg->nJ, emod_eq_of_lt->yi, not_lt->mP, emod_nonneg->zZ, le_of_eq->oC, lt_of_lt_of_le->pR, lt_trans->yj, fdiv->BK, fmod->kS, le_of_lt->tH, ofNat_lt->oG, toNat_of_nonneg->vX, toNat_natCast->me, natCast_nonneg->dY, min_eq_left->z2, max_eq_right->sF, add_zero->kA, sub_eq_iff_eq_add->jI, sub_eq_zero->gF, ofNat_inj->nu, ofNat->sJ, ofNat_sub->wC, fmod_nonneg_of_pos->tQ
open Int.ofNat renaming inj->kW
open _root_.List renaming mem_cons->aY, mem_singleton->aL, casesOn->aC, getElem?_toArray->mA, push_toArray->yk, set_cons_succ->w4, filter_eq_nil_iff->jf, getElem?_eq_getElem->de, getElem_mem->rZ, getElem?_eq_none->eE, getElem?_set_self->dT, forIn_cons->lj, append_nil->bB, length_nil->lq, nodup_append->bk, mem_map_of_mem->og, set_set->oD, append_assoc->aQ, size_toArray->gx, length_map->aH, range'->cb, drop_eq_getElem_cons->fM, getElem?_set_ne->bH, range'_succ->kr, range_eq_range'->vb, drop_zero->pS, getElem?_append_left->aJ, set_append_left->vc, cons_append->fT, length_cons->bb, dropLast_concat_getLast->nW, flatten_cons->yo, mem_append_left->cf, map_append->cw, mem_append_right->cH, length_set->dI, length_append->aq, length->ve, nil_append->ey, nodup_nil->dy, nodup_cons->bu, range->mR, replicate->gW, isEmpty_iff->sb, getElem_of_mem->oh, mem_of_getElem?->bN, mem_append->aG, getElem?_append_right->bT, getElem?_inj->ip, lookup_cons->cz, getElem?_eq_none_iff->qo, reverse_cons->qN, all_cons->iC, any_cons->rB, find?_cons->jx, drop_of_length_le->fE, length_eq_zero_iff->gy, filter_cons->ku, any_eq_true->iX, map_cons->bx, map_congr_left->d7, any_eq_false->yt, pairwise_singleton->sf, pairwise_cons->ji, countP_cons->sr, all_eq_true->bK, foldl_cons->fK, foldl->pV, drop_succ_cons->vW, getElem?_map->eg, sum_cons->jF, getElem?_eq_some_iff->cP, drop_length->zf, forIn_nil->vk, getElem?_drop->qb, filterMap_cons->oq, mem_map->aT, sizeOf_lt_of_mem->uf, map_nil->yB, filter->qQ, lookup->qR, drop->sC, filterMap->BN, zip_nil_right->xe, take_append_drop->mE, mem_nil_iff->c8, set_append_right->ui, mem_flatMap->cI, flatMap_cons->bz, map_map->dk, not_mem_nil->aU, flatMap_append->ot, flatMap_nil->ky, find?_eq_none->xh, mem_of_find?_eq_some->qu, find?_some->z1, filter_append->qd, filter_eq_self->v7, length_filter_le->cJ, take_of_length_le->mh, dropWhile_cons->kK, drop_append_of_le_length->i7, map_drop->nr, length_drop->kz, isEmpty_map->zp, map->sH, filter_congr->jT, filter_cons_of_neg->b6, filter_cons_of_pos->cu, mem_reverse->zq, find?_cons_of_pos->mj, find?_cons_of_neg->jm, mem_filter->bL, filter_sublist->iP, find?_append->fI, filter_filter->qf, count_cons_self->vr, count_cons_of_ne->uj, count_pos_iff->qg, count_eq_zero_of_not_mem->gn, count_eq_countP->vt, flatMap_singleton->jn, filter_flatMap->v8, flatMap_def->zr, mem_iff_getElem?->uk, length_singleton->fP, head?_eq_getElem?->tO, dropWhile_sublist->tP, mem_of_mem_head?->mF, nodup_range'->qT, perm_ext_iff_of_nodup->qi, mem_range'_1->qU, getD_eq_getElem?_getD->qj, mem_range->BV, length_take->fu, mem_of_mem_drop->ke, map_take->wD, mem_of_mem_take->nQ
open List.Perm renaming eq_of_pairwise->rE
open List.cons renaming sizeOf_spec->ug
open _root_.Nat renaming ble->Ak, le_trans->ai, le_of_ble_eq_true->ak, lt_of_le_of_lt->aV, le_of_eq->ar, add_right_comm->aN, ne_of_lt->bP, lt_succ_of_lt->gw, add_le_add_left->bF, succ_pos->lS, add_le_add->dS, add_comm->cD, le_of_add_le_add_right->j7, add_assoc->dC, add_sub_of_le->fy, le_refl->ax, lt_or_ge->et, le_of_lt->bS, add_zero->lT, mul_zero->yl, le_add_right->aF, not_le->tu, zero_add->fD, ne_of_gt->eM, le_of_lt_succ->dF, lt_trans->aD, le_add_left->dH, le_antisymm->hV, mul_le_mul_left->c9, le_add_right_of_le->jg, add_le_add_right->cg, beq->ij, lt_irrefl->aW, not_lt->cC, eq_zero_or_pos->w5, le_of_sub_eq_zero->mB, casesOn->lE, zero_le->fm, le_add_left_of_le->bR, min_le_left->eU, min_eq_left->jy, lt_of_add_right_lt->jh, not_lt_zero->gD, lt_of_succ_lt_succ->tG, le_total->yu, sub_eq_zero_of_le->ud, one_pos->zR, lt_of_lt_of_le->ag, add_sub_cancel_left->dO, sub_lt_sub_left->oo, lt_succ_self->bU, lt_add_of_pos_right->sA, le_succ->lF, lt_add_of_pos_left->tL, le_of_succ_le->eN, succ_lt_succ->zo, not_succ_lt_self->iu, sub_self->mf, min_eq_right->sG, le_of_not_le->mV, le_succ_of_le->iw, sub_le->BR, succ_le_succ->iZ, sub_add_cancel->fZ, le_of_succ_le_succ->eY, lt_of_le_of_ne->qe, pos_of_ne_zero->xk, one_le_of_lt->sI, le_of_add_right_le->dU, eq_of_beq_eq_true->um, lt_succ_of_le->yE, sub_le_sub_right->vA, mod_lt->xn, div_lt_of_lt_mul->kf
open Nat.le renaming intro->cL
open _root_.Ne renaming symm->ym
open _root_.Option renaming map_some->du, none->ae, casesOn->aw, map_eq_some_iff->bY, bind_eq_some_iff->di, isSome_iff_exists->iD, bind_some->ct, isNone_iff_eq_none->hU, map->iE, map_none->eA, getD_some->zi, getD_none->zj, mem_toList->yD, bind->vu, some->af
open Option.some renaming inj->t5, injEq->gz
open _root_.Or renaming elim->vQ
open _root_.PUnit renaming unit->fS
open _root_.Prod renaming fst->GA
open Prod.mk renaming injEq->Cu
open _root_.Pure renaming pure->aA
open _root_.PyProof renaming noPylong_small->tE
open PyProof.Rows renaming StrsAre->Am, seqObj->w9, evalArgs_nil3->rI
open _root_.PySem renaming Expr->au, cellsFrom->gC, Params->eR, Result->BJ, Around->iW, Comprehension->iB, treeTable->eX, standAt->lh, callSpecialIfBoundUnlessNone?->nK, GenState->nM, OsState->gJ, dictEntries->zO, subDict->vO, typeLookup->tw, isSubtype->r7, mergeMapping->yn, FuncData->kR, ClassData->oU, mainGlobals->gm, bootBuiltins->tA, seqIndex?->oV, clipAt->kI, Operator->yp, intKind->iO, nsFind->tB, getAttr->oE, wpAny_Name->w6, wpAny_loadName_cell->vU, wpAny_bind->aB, wpAny_nsGet->zP, wpAny_pure->bG, wpAny_storeName_local->uc, wpAny_holding->dX, SubscriptOn->zQ, wpAny_getItem_list_slice->rC, call_meetsIn->oF, typeLookup_type->jz, builtinLookup_eq_fast->fN, isSubtype_type->iY, codeAny->gK, codeAny_call_builtin->nN, wpAny_call->pU, codeAny_builtin->t6, setAttr->Al, wpAny_of_eq->nO, pyIter->rD, getMethod->mS, getMethod_builtin->fF, call_meets->mT, wpAny_specialOf->nZ, letOwnedTupleGo->lr, wpAny_execs_nil->t7, foldedSetIterable->qO, notedBy->tJ, noteFrame->sz, wpAny_standAt->eC, wpAny_mono->fW, backTo->ka, starEach->fG, wpAny_items_nil->t8, keeperOf->yw, wpAny_Constant_str->xb, wpAny_isTrue_BoolOp->vZ, wpAny_allTrue_And_cons->tK, wpAny_allTrue_Or_cons->ue, attributeBase->nq, wpAny_letTemporaryGo->vj, methodCall->pZ, methodCallForm->lZ, methodCallPos->wy, assignEach->iF, wpAny_assign_Name->jR, rawInt->xc, NameKind->iq, wpAny_newObj_type->jS, swapsWithSole->wA, wpAny_Return_some->qP, wpAny_execs_cons->mU, seqItems?->zh, wpAny_setField->ma, wpAny_field->kb, wpAny_seqItems->vl, entry_listiter_next->v5, Addr->bj, Program->qL, World->jw, Shared->aM, Value->ay, Heap->pQ, Stmt->fV
open PySem.BoolOp renaming casesOn->eS
open PySem.Builtin.Getset_descriptor renaming descrItself->vR, descrSet->w7, descrStoreThrough->sM, descrCheckInstance->sd, descrNameAndClass->sN
open PySem.Builtin.Int renaming intBits->vV
open PySem.Builtin.List renaming listExtendWith->oH, listTooLong->rH
open PySem.Builtin.Range renaming rangeSize->d9, small->iM, rangeFitsLong->oN
open PySem.Builtin.Str renaming occurrences->fk, glued->lW
open PySem.Builtin.Tuple renaming tupleCompareSizes->mq
open PySem.Calls renaming call_function_entry->qr
open PySem.Challenge renaming rw_nb0314_02->dQ
open PySem.CmpOp renaming Eq->kT, IsNot->vn, Is->sE, NotEq->vp, In->kc
open PySem.Code renaming quiet_builtin->w8
open PySem.Comprehension.mk renaming sizeOf_spec->xd
open PySem.Const renaming casesOn->vY
open PySem.Data renaming casesOn->lB
open PySem.EntryCells renaming newEntry->v3
open PySem.ExceptHandler.ExceptHandler renaming sizeOf_spec->rJ
open PySem.Expr renaming casesOn->bf
open PySem.Expr.Attribute renaming sizeOf_spec->l8
open PySem.Expr.BinOp renaming sizeOf_spec->n5
open PySem.Expr.BoolOp renaming sizeOf_spec->nP
open PySem.Expr.Call renaming sizeOf_spec->oK
open PySem.Expr.Compare renaming sizeOf_spec->fX
open PySem.Expr.IfExp renaming sizeOf_spec->jA
open PySem.Expr.ListComp renaming sizeOf_spec->mr
open PySem.Expr.NamedExpr renaming sizeOf_spec->yz
open PySem.Expr.Subscript renaming sizeOf_spec->l9
open PySem.F renaming slot_dict_delitem->qp, plainAttrs_list->ft, slot_list_append->rF, slot_list_extend->kU, slot_list_clear->si, slot_list_index->sk, slot_list_count->so, plainAttrs_dict->sq, slot_dict_get->mC, slot_dict_values->rG, entry_dict_get->tI, args_dict_get_2->sy, entry_list_extend->qs, args_list_extend_2->pY
open PySem.Heap renaming mk->Ex, lt_size->dj, get?_push_of_some->aP, get?_push_size->dc, SameBut->il, get?_update_self->fO, size_push->l7, get?_update_other->jj
open PySem.Heap.IsSliceOf renaming new->Ir
open PySem.Heap.SameBut renaming update->kJ
open PySem.Keeper renaming frame->oJ, machine->lX, boundFrame->jQ
open PySem.NameKind renaming casesOn->tC, free->eV, cell->Cs
open PySem.Obj renaming mapDictKeys->z0, casesOn->lU, data_mapFields->gY, mapFields->gN, isFreed_of_fields->mD, cls_mapFields->md
open PySem.Operator renaming casesOn->tD, Add->fH, Sub->yC, Mod->oM
open PySem.PyData renaming eqv->mQ, int->BS, strOk->eO, canLayAll0->ix, canLay0->BU, depthAll->dJ, str->xm, depth->Ez, list->GC
open PySem.Sem renaming bind_eq_wrap'->yh, wrap_wrap->nk
open PySem.SeqRoads2.EqGives renaming str->EE
open PySem.Stmt renaming casesOn->pT
open PySem.Stmt.If renaming sizeOf_spec->qt
open PySem.Stmt.While renaming sizeOf_spec->n6
open PySem.Str renaming ofString->ah, ofString_eq_toList->tN
open PySem.Txt renaming lower->vP
open PySem.Value renaming int->zd, str->kq, type->gB, builtin->rA, ref->cB, casesOn->iN, isStrOf->Cp, isInt->vh, none->cq
open PySem.W renaming topRun->u9, topRun_mono->zN, findIn->j8, specialIn->r9, takesIn->yq, typeIn->BL, takerIn->qM, keepIn->j9, looks_field->vi, WRecords->BO, boot_heap->gS, boot_drawn->fY, behindTheImports->sD, restOf->zk, boot_toks->zl, looks_pair->jl, Frag->r8
open PySem.W.Fast renaming te10110043849684766642->gO, te14364793385576792824->gP
open PySem.W.KF renaming slot_mset->yv
open PySem.W.Looks renaming of_pure->wx
open PySem.W.WData renaming casesOn->uh, plainAll->BP, int->vT
open PySem.W.WShape renaming has->tM, hasItems->n7, hasAll->wB
open PySem.pyHashByItsType renaming reduced->rY
open _root_.String renaming reduceEq->gE
variable{C p:Prop}{α β K:Type}{a:bj}{b d r n k i tk j tx:Nat}{e elt:au}{pr prog:qL}{w:jw}{s s':aM}{t g:Str->List Str}{x y name nm:Str}{part:Option ay}{args ts:List au}{L l seen:List Str}{pos:Pos}{z ks:List Nat}{u:Unit}{ρ ρ':List bj}{P:eR}{ys vals:List ay}{h h':pQ}{env:Env}{fl:List Env}{Pre:List bj->Prop}{R:BJ->aM->Prop}{Q E:ay->aM->Prop}{A:iW}{val:ay}{kvs bv:List (Str × ay)}{sl:Array (Option ay)}{m:Str->Option ay}{St:Nat->pQ->Prop}{gens:List iB}{scope:Scope}{hd:Bool}{rg:Option (List Str)}{fz:Option Nat}
theorem dZ{p0 p1:Prop}(h:p0/\p1)(k:p0->p1->C):C:=by
 obtain ⟨h0,h1⟩:=h;exact k h0 h1
theorem cT{p0 p1 p2:Prop}(h:p0/\p1/\p2)(k:p0->p1->p2->C):C:=by
 obtain ⟨h0,h1,h2⟩:=h;exact k h0 h1 h2
theorem iz{p0 p1 p2 p3:Prop}(h:p0/\p1/\p2/\p3)(k:p0->p1->p2->p3->C):C:=by
 obtain ⟨h0,h1,h2,h3⟩:=h;exact k h0 h1 h2 h3
theorem iJ{p0 p1 p2 p3 p4:Prop}(h:p0/\p1/\p2/\p3/\p4)(k:p0->p1->p2->p3->p4->C):C:=by
 obtain ⟨h0,h1,h2,h3,h4⟩:=h;exact k h0 h1 h2 h3 h4
theorem iQ{p0 p1 p2 p3 p4 p5:Prop}(h:p0/\p1/\p2/\p3/\p4/\p5)(k:p0->p1->p2->p3->p4->p5->C):C:=by
 obtain ⟨h0,h1,h2,h3,h4,h5⟩:=h;exact k h0 h1 h2 h3 h4 h5
theorem lG{α:Sort _}{p0:α->Prop}(h:∃x0,p0 x0)(k:∀x0,p0 x0->C):C:=by
 obtain ⟨x0,h0⟩:=h;exact k _ h0
theorem aR{α:Sort _}{p0 p1:α->Prop}(h:∃x0,p0 x0/\p1 x0)(k:∀x0,p0 x0->p1 x0->C):C:=by
 obtain ⟨x0,h0,h1⟩:=h;exact k _ h0 h1
theorem cO{α:Sort _}{p0 p1 p2:α->Prop}(h:∃x0,p0 x0/\p1 x0/\p2 x0)(k:∀x0,p0 x0->p1 x0->p2 x0->C):C:=by
 obtain ⟨x0,h0,h1,h2⟩:=h;exact k _ h0 h1 h2
theorem C8{α:Sort _}{p0 p1 p2 p3:α->Prop}(h:∃x0,p0 x0/\p1 x0/\p2 x0/\p3 x0)(k:∀x0,p0 x0->p1 x0->p2 x0->p3 x0->C):C:=by
 obtain ⟨x0,h0,h1,h2,h3⟩:=h;exact k _ h0 h1 h2 h3
theorem LA{α:Sort _}{p0 p1 p2 p3 p4:α->Prop}(h:∃x0,p0 x0/\p1 x0/\p2 x0/\p3 x0/\p4 x0)(k:∀x0,p0 x0->p1 x0->p2 x0->p3 x0->p4 x0->C):C:=by
 obtain ⟨x0,h0,h1,h2,h3,h4⟩:=h;exact k _ h0 h1 h2 h3 h4
theorem vB{α:Sort _}{p0 p1 p2 p3 p4 p5:α->Prop}(h:∃x0,p0 x0/\p1 x0/\p2 x0/\p3 x0/\p4 x0/\p5 x0)(k:∀x0,p0 x0->p1 x0->p2 x0->p3 x0->p4 x0->p5 x0->C):C:=by
 obtain ⟨x0,h0,h1,h2,h3,h4,h5⟩:=h;exact k _ h0 h1 h2 h3 h4 h5
theorem An{α:Sort _}{β:Sort _}{p0:α->β->Prop}(h:∃x0 x1,p0 x0 x1)(k:∀x0 x1,p0 x0 x1->C):C:=by
 obtain ⟨x0,x1,h0⟩:=h;exact k _ _ h0
theorem gc{α:Sort _}{β:Sort _}{p0 p1:α->β->Prop}(h:∃x0 x1,p0 x0 x1/\p1 x0 x1)(k:∀x0 x1,p0 x0 x1->p1 x0 x1->C):C:=by
 obtain ⟨x0,x1,h0,h1⟩:=h;exact k _ _ h0 h1
theorem ck{α:Sort _}{β:Sort _}{p0 p1 p2:α->β->Prop}(h:∃x0 x1,p0 x0 x1/\p1 x0 x1/\p2 x0 x1)(k:∀x0 x1,p0 x0 x1->p1 x0 x1->p2 x0 x1->C):C:=by
 obtain ⟨x0,x1,h0,h1,h2⟩:=h;exact k _ _ h0 h1 h2
theorem eu{α:Sort _}{β:Sort _}{p0 p1 p2 p3:α->β->Prop}(h:∃x0 x1,p0 x0 x1/\p1 x0 x1/\p2 x0 x1/\p3 x0 x1)(k:∀x0 x1,p0 x0 x1->p1 x0 x1->p2 x0 x1->p3 x0 x1->C):C:=by
 obtain ⟨x0,x1,h0,h1,h2,h3⟩:=h;exact k _ _ h0 h1 h2 h3
theorem dD{α:Sort _}{β:Sort _}{p0 p1 p2 p3 p4:α->β->Prop}(h:∃x0 x1,p0 x0 x1/\p1 x0 x1/\p2 x0 x1/\p3 x0 x1/\p4 x0 x1)(k:∀x0 x1,p0 x0 x1->p1 x0 x1->p2 x0 x1->p3 x0 x1->p4 x0 x1->C):C:=by
 obtain ⟨x0,x1,h0,h1,h2,h3,h4⟩:=h;exact k _ _ h0 h1 h2 h3 h4
theorem iA{α:Sort _}{β:Sort _}{p0 p1 p2 p3 p4 p5:α->β->Prop}(h:∃x0 x1,p0 x0 x1/\p1 x0 x1/\p2 x0 x1/\p3 x0 x1/\p4 x0 x1/\p5 x0 x1)(k:∀x0 x1,p0 x0 x1->p1 x0 x1->p2 x0 x1->p3 x0 x1->p4 x0 x1->p5 x0 x1->C):C:=by
 obtain ⟨x0,x1,h0,h1,h2,h3,h4,h5⟩:=h;exact k _ _ h0 h1 h2 h3 h4 h5
theorem sO{α:Sort _}{β:Sort _}{γ:Sort _}{p0:α->β->γ->Prop}(h:∃x0 x1 x2,p0 x0 x1 x2)(k:∀x0 x1 x2,p0 x0 x1 x2->C):C:=by
 obtain ⟨x0,x1,x2,h0⟩:=h;exact k _ _ _ h0
theorem gb{α:Sort _}{β:Sort _}{γ:Sort _}{p0 p1:α->β->γ->Prop}(h:∃x0 x1 x2,p0 x0 x1 x2/\p1 x0 x1 x2)(k:∀x0 x1 x2,p0 x0 x1 x2->p1 x0 x1 x2->C):C:=by
 obtain ⟨x0,x1,x2,h0,h1⟩:=h;exact k _ _ _ h0 h1
theorem jo{α:Sort _}{β:Sort _}{γ:Sort _}{p0 p1 p2:α->β->γ->Prop}(h:∃x0 x1 x2,p0 x0 x1 x2/\p1 x0 x1 x2/\p2 x0 x1 x2)(k:∀x0 x1 x2,p0 x0 x1 x2->p1 x0 x1 x2->p2 x0 x1 x2->C):C:=by
 obtain ⟨x0,x1,x2,h0,h1,h2⟩:=h;exact k _ _ _ h0 h1 h2
theorem b8{α:Sort _}{β:Sort _}{γ:Sort _}{p0 p1 p2 p3:α->β->γ->Prop}(h:∃x0 x1 x2,p0 x0 x1 x2/\p1 x0 x1 x2/\p2 x0 x1 x2/\p3 x0 x1 x2)(k:∀x0 x1 x2,p0 x0 x1 x2->p1 x0 x1 x2->p2 x0 x1 x2->p3 x0 x1 x2->C):C:=by
 obtain ⟨x0,x1,x2,h0,h1,h2,h3⟩:=h;exact k _ _ _ h0 h1 h2 h3
theorem jV{α:Sort _}{β:Sort _}{γ:Sort _}{p0 p1 p2 p3 p4:α->β->γ->Prop}(h:∃x0 x1 x2,p0 x0 x1 x2/\p1 x0 x1 x2/\p2 x0 x1 x2/\p3 x0 x1 x2/\p4 x0 x1 x2)(k:∀x0 x1 x2,p0 x0 x1 x2->p1 x0 x1 x2->p2 x0 x1 x2->p3 x0 x1 x2->p4 x0 x1 x2->C):C:=by
 obtain ⟨x0,x1,x2,h0,h1,h2,h3,h4⟩:=h;exact k _ _ _ h0 h1 h2 h3 h4
theorem dx{α:Sort _}{β:Sort _}{γ:Sort _}{p0 p1 p2 p3 p4 p5:α->β->γ->Prop}(h:∃x0 x1 x2,p0 x0 x1 x2/\p1 x0 x1 x2/\p2 x0 x1 x2/\p3 x0 x1 x2/\p4 x0 x1 x2/\p5 x0 x1 x2)(k:∀x0 x1 x2,p0 x0 x1 x2->p1 x0 x1 x2->p2 x0 x1 x2->p3 x0 x1 x2->p4 x0 x1 x2->p5 x0 x1 x2->C):C:=by
 obtain ⟨x0,x1,x2,h0,h1,h2,h3,h4,h5⟩:=h;exact k _ _ _ h0 h1 h2 h3 h4 h5
theorem gH{α:Sort _}{β:Sort _}{γ:Sort _}{δ:Sort _}{p0:α->β->γ->δ->Prop}(h:∃x0 x1 x2 x3,p0 x0 x1 x2 x3)(k:∀x0 x1 x2 x3,p0 x0 x1 x2 x3->C):C:=by
 obtain ⟨x0,x1,x2,x3,h0⟩:=h;exact k _ _ _ _ h0
theorem LB{α:Sort _}{β:Sort _}{γ:Sort _}{δ:Sort _}{p0 p1:α->β->γ->δ->Prop}(h:∃x0 x1 x2 x3,p0 x0 x1 x2 x3/\p1 x0 x1 x2 x3)(k:∀x0 x1 x2 x3,p0 x0 x1 x2 x3->p1 x0 x1 x2 x3->C):C:=by
 obtain ⟨x0,x1,x2,x3,h0,h1⟩:=h;exact k _ _ _ _ h0 h1
theorem Cv{α:Sort _}{β:Sort _}{γ:Sort _}{δ:Sort _}{p0 p1 p2:α->β->γ->δ->Prop}(h:∃x0 x1 x2 x3,p0 x0 x1 x2 x3/\p1 x0 x1 x2 x3/\p2 x0 x1 x2 x3)(k:∀x0 x1 x2 x3,p0 x0 x1 x2 x3->p1 x0 x1 x2 x3->p2 x0 x1 x2 x3->C):C:=by
 obtain ⟨x0,x1,x2,x3,h0,h1,h2⟩:=h;exact k _ _ _ _ h0 h1 h2
theorem sP{α:Sort _}{β:Sort _}{γ:Sort _}{δ:Sort _}{p0 p1 p2 p3:α->β->γ->δ->Prop}(h:∃x0 x1 x2 x3,p0 x0 x1 x2 x3/\p1 x0 x1 x2 x3/\p2 x0 x1 x2 x3/\p3 x0 x1 x2 x3)(k:∀x0 x1 x2 x3,p0 x0 x1 x2 x3->p1 x0 x1 x2 x3->p2 x0 x1 x2 x3->p3 x0 x1 x2 x3->C):C:=by
 obtain ⟨x0,x1,x2,x3,h0,h1,h2,h3⟩:=h;exact k _ _ _ _ h0 h1 h2 h3
theorem uo{α:Sort _}{β:Sort _}{γ:Sort _}{δ:Sort _}{p0 p1 p2 p3 p4:α->β->γ->δ->Prop}(h:∃x0 x1 x2 x3,p0 x0 x1 x2 x3/\p1 x0 x1 x2 x3/\p2 x0 x1 x2 x3/\p3 x0 x1 x2 x3/\p4 x0 x1 x2 x3)(k:∀x0 x1 x2 x3,p0 x0 x1 x2 x3->p1 x0 x1 x2 x3->p2 x0 x1 x2 x3->p3 x0 x1 x2 x3->p4 x0 x1 x2 x3->C):C:=by
 obtain ⟨x0,x1,x2,x3,h0,h1,h2,h3,h4⟩:=h;exact k _ _ _ _ h0 h1 h2 h3 h4
theorem kg{α:Sort _}{β:Sort _}{γ:Sort _}{δ:Sort _}{p0 p1 p2 p3 p4 p5:α->β->γ->δ->Prop}(h:∃x0 x1 x2 x3,p0 x0 x1 x2 x3/\p1 x0 x1 x2 x3/\p2 x0 x1 x2 x3/\p3 x0 x1 x2 x3/\p4 x0 x1 x2 x3/\p5 x0 x1 x2 x3)(k:∀x0 x1 x2 x3,p0 x0 x1 x2 x3->p1 x0 x1 x2 x3->p2 x0 x1 x2 x3->p3 x0 x1 x2 x3->p4 x0 x1 x2 x3->p5 x0 x1 x2 x3->C):C:=by
 obtain ⟨x0,x1,x2,x3,h0,h1,h2,h3,h4,h5⟩:=h;exact k _ _ _ _ h0 h1 h2 h3 h4 h5
theorem iK[d:Decidable p](h:decide p=ao):p:=of_decide_eq_true h
theorem fg{α:Type _}{a:α}{l:List α}:a∈a::l:=List.mem_cons_self
theorem i8{α:Type _}{a:α}{l:List α}(b:α)(h:a∈l):a∈b::l:=List.mem_cons_of_mem b h
theorem jJ{α:Type _}{a b:α}{l:List α}(h:a∈b::l):a=b∨a∈l:=aY.mp h
theorem all1{P:α->Prop}{a:α}(h1:P a):∀x∈ [a],P x:=λx h=>aL.mp h▸h1
theorem all2{P:α->Prop}{a b:α}(h1:P a)(h2:P b):∀x∈ [a,b],P x:=λx h=>(aY.mp h).elim (λe=>e▸h1) (all1 h2 x)
theorem O9{P:α->Prop}{a b c:α}(h1:P a)(h2:P b)(h3:P c):∀x∈ [a,b,c],P x:=λx h=>(aY.mp h).elim (λe=>e▸h1) (all2 h2 h3 x)
theorem VA{G:Prop}(h:∀P:Prop,(G->P)->P):G:=h G id
theorem qk{a c:Nat}(h:a<=b)(k:Ak b c=ao):a<=c:=ai h (ak k)
theorem Iu{a c:Nat}(h:a<=b)(k:Ak (b+1) c=ao):a<c:=aV h (ak k)
theorem Pa{a c:Nat}(h:b=a)(g:b<=c)(k:Ak c d=ao):a<=d:=h▸qk g k
theorem tgq{a c:Nat}(h:a=b)(k:Ak c b=ao):c<=a:=h▸ak k
theorem VB{a c:Nat}(h:a+(b+1)<=c):a+1+b<=c:=ai (ar (aN a 1 b)) h
theorem Vj{a c:Nat}(h:a+(b+1)<c):a+1+b<c:=aV (ar (aN a 1 b)) h
theorem OX{a:Nat}(h:a<b):a≠b+1:=bP (gw h)
theorem RE{a c:Nat}(h:a+(b+1)<=c):a+1<=c:=ai (bF (lS b) a) h
theorem Vk{a c:Nat}(h:a+(b+1)=c):a<c:=RE (ar h)
theorem Yl{a c:Nat}(h:a<=d)(k:b<=c):a+b<=c+d:=ai (dS h k) (ar (cD d c))
theorem VC{a c:Nat}(h:a<=d)(k:b<=d*c):a+b<=d*(c+1):=Yl h k
theorem SK{a:Nat}{c:Int}(h:a<=b)(k:(b:Int)<c):(a:Int)<c:=lA (jd.mpr h) k
theorem YN{a:Int}{c:Int}(h:a.natAbs<=b)(k:(b:Int)<c):a<c:=lA Int.le_natAbs (SK h k)
theorem nbq{a:Int}{c:Int}(h:a.natAbs<=b)(k:c<= -(b:Int)):c<=a:=
 je k (Int.neg_le_of_neg_le (je Int.le_natAbs (jd.mpr (ai (ar (Int.natAbs_neg a)) h))))
theorem w1q{a c e f:Nat}(h:a+c<=d+f)(k:b+f<=1+e):a+b+c<=d+1+e:=
 j7 (b:=f) (ai (ar ((congrArg (· +f) (aN a b c)).trans (dC _ _ _))) (ai (dS h k) (ar ((Nat.add_add_add_comm d f 1 e).trans ((congrArg _ (cD f e)).trans (dC _ _ _).symm)))))
theorem m1q(n:Nat):(-1:Int)+((n:Int)+1)=n:=(congrArg (-1+ ·) (yg n 1)).trans (Int.neg_add_cancel_left 1 n)
section
variable{n₀:Nat}{ann:Option ay}
def TR(pr:qL)(w:jw)(n₀:Nat)(ann:Option ay)(N:Nat)(s:aM)(t:Thread)(r:aM):Prop:=u9 eX pr w n₀ ann N s t=af r
theorem mW{N:Nat}{r:aM}{t t':Thread}(h1:through t=bc)(h2:stepOk n₀ ann t=ao)(h3:step (denote eX) pr w s t= .go s' t')
  (h:TR pr w n₀ ann N s' t' r):TR pr w n₀ ann (N+1) s t r:=by
 dsimp only [TR,u9];rw [h1,h2,h3];exact h
theorem Pb{N:Nat}(k:Nat){r:aM}{t:Thread}(h:TR pr w n₀ ann N s t r):TR pr w n₀ ann (N+k) s t r:=zN k _ _ _ _ h
def eG(pr:qL)(w:jw)(n₀:Nat)(ann:Option ay)(n:Nat)(m:Sem α)(s:aM)(a:α)(s':aM):Prop:=
 ∀(K:α->Sem Fin) (H:ay->Sem Fin) (gd:Bool->Bool) (lv:List ay->List ay) (c:Code) (p:Pos) (st:List Frame),
  ∃p',∀N r,TR pr w n₀ ann N s' ⟨K a,c,p',st⟩ r->TR pr w n₀ ann (N+n) s ⟨m.wrap K H gd lv,c,p,st⟩ r
variable{n₁ n₂:Nat}{s₁ s_2:aM}{a:α}{b:β}
theorem cZ:eG pr w n₀ ann 0 (aA a:Sem α) s a s:=λ_ _ _ _ _ p _=>⟨p,λ_ _ h=>h⟩
theorem rK{m:Sem α}(h:eG pr w n₀ ann n₁ m s a s')(hn:n₁<=n₂):eG pr w n₀ ann n₂ m s a s':=λK H gd lv c p st=>by
 obtain ⟨p',hp⟩:=h K H gd lv c p st;refine ⟨p',λN r hr=>?_⟩;have:=Pb (n₂-n₁) (hp N r hr)
 rwa [show N+n₁+(n₂-n₁)=N+n₂ from (dC _ _ _).trans (congrArg _ (fy hn))] at this
theorem vC{m:Sem α}{f:α->Sem β}(h:eG pr w n₀ ann n₁ m s a s₁)(h':eG pr w n₀ ann n₂ (f a) s₁ b s_2):eG pr w n₀ ann (n₁+n₂) (m>>=f) s b s_2:=λK H gd lv c p st=>by
 obtain ⟨p_1,h1⟩:=h (λa=>(f a).wrap K H gd lv) H gd lv c p st;obtain ⟨p_2,h2⟩:=h' K H gd lv c p_1 st;refine ⟨p_2,λN r hr=>?_⟩;rw [yh,nk,show N+(n₁+n₂)=(N+n₂)+n₁ from (dC _ _ _).symm.trans (aN _ _ _)];exact h1 _ r (h2 N r hr)
theorem JS{m:Sem α}(vs:List ay)(h:eG pr w n₀ ann n m s a s'):eG pr w n₀ ann n (m.keep vs) s a s':=λK H gd lv c p st=>by
 rw [Sem.keep_eq_wrap,nk];exact h K H gd (λl=>lv (vs++l)) c p st
theorem eH{m:Sem α}(vs:List ay)(h:eG pr w n₀ ann n m s a s'):eG pr w n₀ ann n (holding vs m) s a s':=by
 unfold holding;split
 ·exact h
 ·exact JS _ h
theorem BX{m:Sem α}{k:ay->Sem α}(h:eG pr w n₀ ann n m s a s'):eG pr w n₀ ann n (tryCatch m k) s a s':=λK H gd lv c p st=>by
 show∃p',∀N r,_->TR pr w n₀ ann (N+n) s ⟨(Sem.tryCatch m k).wrap K H gd lv,c,p,st⟩ r;rw [Sem.tryCatch_eq_wrap,nk];exact h K _ _ lv c p st
theorem C9{m:Sem α}{k:ay->Sem Unit}(h:eG pr w n₀ ann n m s a s'):eG pr w n₀ ann n (m.onRaise k) s a s':=λK H gd lv c p st=>by
 rw [Sem.onRaise_eq_wrap,nk];exact h K _ _ lv c p st
theorem Ao:eG pr w n₀ ann 1 fresh s s.toks {s with toks:=s.toks+1}:=λK H gd lv c p st=>⟨p,λN r hr=>mW (by induction st using aC<;>rfl) (by rfl) (by rfl) hr⟩
theorem Cw{tag:String}:eG pr w n₀ ann 1 (rule tag) s () s:=λK H gd lv c p st=>⟨p,λN r hr=>mW (by induction st using aC<;>rfl) (by rfl) (by rfl) hr⟩
theorem sQ{q:Pos}:eG pr w n₀ ann 1 (lh q) s () s:=λK H gd lv c p st=>⟨q,λN r hr=>mW (by induction st using aC<;>rfl) (by rfl) (by rfl) hr⟩
theorem LC:eG pr w n₀ ann 1 ask s ⟨pr,w.params⟩ s:=λK H gd lv c p st=>⟨p,λN r hr=>mW (by induction st using aC<;>rfl) (by rfl) (by rfl) hr⟩
theorem Ap{o:Obj}:eG pr w n₀ ann 1 (alloc o) s s.heap.objs.size {s with heap:=s.heap.push o}:=λK H gd lv c p st=>⟨p,λN r hr=>mW (by induction st using aC<;>rfl) (by rfl) (by rfl) hr⟩
theorem kN{x:bj}{o:Obj}(ho:s.heap.get? x=af o):eG pr w n₀ ann 1 (loadPart x part) s o s:=λK H gd lv c p st=>⟨p,λN r hr=>mW (by induction st using aC<;>rfl) (by rfl) (by
 obtain ⟨h,g,d,tk,os⟩:=s;show (match h.get? x with|some o=>Step.go _ _|none=>_)=_;rw [show h.get? x=af o from ho];rfl) hr⟩
theorem zS{x:bj}{o:Obj}{f:Obj->Obj}(ho:s.heap.get? x=af o)(hx:n₀<=x):eG pr w n₀ ann 1 (updatePart x part f) s () {s with heap:=s.heap.update x f}:=λK H gd lv c p st=>⟨p,λN r hr=>mW (by induction st using aC<;>rfl) (by
 show (ao&&(Ak n₀ x||_||_||_))=ao;rw [Nat.ble_eq_true_of_le hx];rfl) (by
 obtain ⟨h,g,d,tk,os⟩:=s;show (if (h.get? x).isSome then Step.go _ _ else _)=_;rw [show h.get? x=af o from ho];rfl) hr⟩
theorem wF{i:Int}:eG pr w n₀ ann 1 (mkInt i) s (.int i s.toks) {s with toks:=s.toks+1}:=vC (f:=λt=>aA (zd i t)) Ao cZ
theorem EF:eG pr w n₀ ann 1 (mkText x) s (.str x s.toks) {s with toks:=s.toks+1}:=vC (f:=λt=>aA (kq x t)) Ao cZ
theorem xq(k:Int)(t:Tok):specialOf (.int k t) "__hash__" =aA (af (.builtin "int.__hash__")):=by kernel_rfl
theorem yG(k:Int)(t:Tok):bindSpecial (.builtin "int.__hash__") (.int k t)=aA (.builtin "int.__hash__",[.int k t]):=by kernel_rfl
theorem LD(k:Int)(t:Tok):callAny (.builtin "int.__hash__") ⟨[.int k t],[]⟩=aA (.again (.builtin "int.__hash__" ⟨[.int k t],[]⟩)):=by kernel_rfl
theorem GJ(k:Int)(t:Tok):denote eX (.builtin "int.__hash__" ⟨[.int k t],[]⟩)=Builtin.«int.__hash__» ⟨[.int k t],[]⟩:=by kernel_rfl
theorem JT(k:Int)(t:Tok):Builtin.«int.__hash__» ⟨[.int k t],[]⟩=
  (retInt (if (if k<0 then-((k.natAbs:Int)%(2^61-1:Nat)) else (k.natAbs:Int)%(2^61-1:Nat))== -1 then-2 else (if k<0 then-((k.natAbs:Int)%(2^61-1:Nat)) else (k.natAbs:Int)%(2^61-1:Nat)))):=by kernel_rfl
theorem Pd(m:Sem α):m.wrap .pure .raise id id=m:=by
 induction m<;>simp only [Sem.wrap,id, *]
theorem yH{id:String}{args:Args}{body:Sem PySem.Fin}{v:ay}(h1:callAny (.builtin id) args=aA (.again (.builtin id args)))(hlt:id.startsWith "lifetime." =bc)
  (h2:denote eX (.builtin id args)=body) (h3:eG pr w n₀ ann n body s (.done (.ret v)) s'):eG pr w n₀ ann (n+3) (runValue (.call (.builtin id) args)) s v s':=λK H gd lv c p st=>by
 obtain ⟨h,g,d,tk,os⟩:=s;refine ⟨p,λN r hr=>?_⟩;have e0:denote eX (.call (.builtin id) args)= .pure (.again (.builtin id args)):=h1
 let kk:BJ->Sem PySem.Fin:=λr=>((match r with| .ok f=>(Sem.pure f:Sem Flow)| .error e=>.raise e).bind λx=>match x with| .ret v=>(aA v:Sem ay)|_=>unsupported "internal:call-without-return-value").wrap K H gd lv
 obtain ⟨kept,t1⟩:∃kept,step (denote eX) pr w ⟨h,g,d,tk,os⟩ ⟨(runValue (.call (.builtin id) args)).wrap K H gd lv,c,p,st⟩=
   .go ⟨h,g,d,tk,os⟩ ⟨.pure (.again (.builtin id args)),.call (.builtin id) args,p,.ret kk ae (gd bc) (lv []) c p kept::st⟩:=by
  refine (e0).symm▸ ?_;induction c using PySem.Code.casesOn<;>exact ⟨_,rfl⟩
 have t2:=step_again (den:=denote eX) (p:=pr) (w:=w) (heap:=h) (gens:=g) (drawn:=d) (toks:=tk) (os:=os) (c:=.builtin id args) (code:=.call (.builtin id) args) (pos:=p) (k:=kk) (h:=none) (g:=gd bc) (l:=lv []) (cd:=c) (p₀:=p) (kept:=kept) (rest:=st);rw [h2] at t2;obtain ⟨p',h3'⟩:=h3 .pure .raise _root_.id _root_.id (.builtin id args) p (.ret kk ae (gd bc) (lv []) c p (keptBy (.call (.builtin id) args) (.builtin id args) (lv []) kept)::st);rw [Pd] at h3';have fin:TR pr w n₀ ann (N+1) s' ⟨.pure (.done (.ret v)),.builtin id args,p',.ret kk ae (gd bc) (lv []) c p (keptBy (.call (.builtin id) args) (.builtin id args) (lv []) kept)::st⟩ r:=by
  obtain ⟨h',g',d',tk',os'⟩:=s';exact mW (by rfl) (by rfl) (by rfl) hr
 have:=mW (pr:=pr) (w:=w) (n₀:=n₀) (ann:=ann) (by rfl) (by
  show ((!(id.startsWith "lifetime.")||_)&&_&&ao&&ao)=ao;rw [hlt];rfl) t2 (h3' _ r fin)
 have:=mW (pr:=pr) (w:=w) (n₀:=n₀) (ann:=ann) (by induction st using aC<;>rfl) (by rfl) t1 this;rw [show N+(n+3)=N+1+n+1+1 from congrArg (· +2) (aN N n 1)];exact this
theorem LF{k:Int}(h0:0<=k)(h1:k<2305843009213693951):
  (if (if k<0 then-((k.natAbs:Int)%(2^61-1:Nat)) else (k.natAbs:Int)%(2^61-1:Nat))== -1 then-2 else (if k<0 then-((k.natAbs:Int)%(2^61-1:Nat)) else (k.natAbs:Int)%(2^61-1:Nat)))=k:=by
 have e:(k.natAbs:Int)%(2^61-1:Nat)=k:=by
  rw [show ((2^61-1:Nat):Int)=2305843009213693951 by decide,nJ h0];exact yi h0 h1
 rw [e,if_neg (mP.mpr (je (zZ _ (by decide)) (oC e)):¬k<0)];have:(k== -1)=bc:=by simp;exact (Int.ne_of_lt (pR (by decide) (je (zZ _ (by decide)) (oC e)))).symm
 refine this▸ ?_;rfl
theorem bJ{m:Sem α}{f:α->Sem β}(hn:n₁+n₂<=n)(h:eG pr w n₀ ann n₁ m s a s₁)(h':eG pr w n₀ ann n₂ (f a) s₁ b s_2):eG pr w n₀ ann n (m>>=f) s b s_2:=rK (vC h h') hn
theorem JU{k:Int}{t:Tok}(h0:0<=k)(h1:k<2305843009213693951):eG pr w n₀ ann 5 (pyHash (.int k t)) s k {s with toks:=s.toks+1}:=by
 show eG pr w n₀ ann 5 (pyHashByItsType (.int k t)) s k {s with toks:=s.toks+1};unfold pyHashByItsType;rw [xq];change eG pr w n₀ ann 5 (nK (.int k t) "__hash__" _>>=_) s k _;refine bJ (ax _) (n₁:=5) (n₂:=0) (a:=af (.int k s.toks)) (s₁:={s with toks:=s.toks+1}) ?_ ?_
 ·unfold nK;refine eH _ ?_;refine bJ (by decide) (n₁:=1) (n₂:=4) (a:=af (.builtin "int.__hash__",[.int k t])) (s₁:=s) ?_ ?_
  ·unfold bindSpecialIfBound?;rw [xq];refine bJ (ak rfl) (n₁:=0) (n₂:=1) (a:=af (.builtin "int.__hash__")) (s₁:=s) cZ ?_;refine bJ (ax _) (n₁:=1) (n₂:=0) (a:=⟨pr,w.params⟩) (s₁:=s) LC ?_;dsimp only;rw [yG];split
   ·exact cZ
   ·exact BX cZ
  ·refine bJ (ax _) (n₁:=4) (n₂:=0) (a:=.int k s.toks) (s₁:={s with toks:=s.toks+1}) ?_ cZ;refine yH (n:=1) (LD k t) (by decide+kernel) (GJ k t) ?_;rw [JT,LF h0 h1];exact vC (n₁:=1) (n₂:=0) (f:=λv=>ret v) wF cZ
 ·show eG pr w n₀ ann 0 (rY k) _ _ _;unfold rY;rw [if_pos (by simp;exact ⟨je (by decide) h0,yj h1 (by decide)⟩)];have:(k== -1)=bc:=by simp;exact (Int.ne_of_lt (pR (by decide) h0)).symm
  refine this▸ ?_;exact cZ
end
noncomputable abbrev hp(L:List Obj)(life:Life):pQ:=⟨L.toArray,life⟩
theorem yI{L:List Obj}{life:Life}{a:Nat}{es:List DictEntry}(h:L[a]? =af (dictOf es n)):(hp L life).get? a=af (dictOf es n):=by
 unfold Heap.get?;show (match L.toArray[a]? with|some ⟨_,_,.freed,_⟩=>ae|o=>o)=_;rw [mA,h]
theorem Iv(L:List Obj)(life:Life)(o:Obj):(hp L life).push o=hp (L++ [o]) life:=by
 show Ex (L.toArray.push o) life=Ex (L++ [o]).toArray life;rw [yk]
theorem Aq(f:β->β):∀(L:List β) (a:Nat) (x:β),L[a]? =af x->L.modify a f=L.set a (f x)
 | [],a,x,h=>by trivial
 |y::L,0,x,h=>by simp at h;subst h;rfl
 |y::L,a+1,x,h=>by
  have:=Aq f L a x (by simpa using h);simp only [List.modify_succ_cons,w4,this]
theorem JV{L:List Obj}{life:Life}{a:Nat}{o:Obj}(f:Obj->Obj)(h:L[a]? =af o):(hp L life).update a f=hp (L.set a (f o)) life:=by
 show Ex (L.toArray.modify a f) life=Ex (L.set a (f o)).toArray life;refine (Aq f L a o h).symm▸ ?_;congr 1;apply Array.ext';simp
noncomputable abbrev sh(L:List Obj)(life:Life)(g:Array nM)(dr:Drawn)(tk:Nat)(os:gJ):aM:=⟨hp L life,g,dr,tk,os⟩
section
variable{n₀:Nat}{ann:Option ay}{L:List Obj}{life:Life}{g:Array nM}{dr:Drawn}{os:gJ}{d:bj}{es:List DictEntry}{k:Int}{t:Tok}{v:ay}
theorem GK(h:∀e∈es,e.hash≠k):placesWithHash es.toArray.size (λi=>es.toArray[i]?.map (·.hash)) k= []:=by
 unfold placesWithHash;refine (jf).mpr ?_;intro i hi;have hi':i<es.length:=by simpa using hi
 simp only [mA,de hi',du];have:=h es[i] (rZ hi');simpa using this
theorem kh(h:L[d]? =af (dictOf es n)):eG pr w n₀ ann 1 (zO d part) (sh L life g dr tk os) es.toArray (sh L life g dr tk os):=by
 unfold zO;exact bJ (ax _) (n₁:=1) (n₂:=0) (kN (o:=dictOf es n) (yI h)) cZ
theorem ur(h:L[d]? =af (dictOf es n)):eG pr w n₀ ann 1 (dictEpoch d part) (sh L life g dr tk os) n (sh L life g dr tk os):=by
 unfold dictEpoch;exact bJ (ax _) (n₁:=1) (n₂:=0) (kN (o:=dictOf es n) (yI h)) cZ
theorem v9(h:L[d]? =af (dictOf es n))(hk:∀e∈es,e.hash≠k):eG pr w n₀ ann 1 (dictFind d (.int k t) k) (sh L life g dr tk os) ae (sh L life g dr tk os):=by
 unfold dictFind;refine eH _ (bJ (ax _) (n₁:=1) (n₂:=0) (kh h) ?_);dsimp only;refine (GK hk)▸ ?_;exact cZ
theorem tR{e:DictEntry}(h:L[d]? =af (dictOf es n))(hd:n₀<=d)(hz:es.length<1000000):
  eG pr w n₀ ann 3 (updateDictKeys d (·.push e) part) (sh L life g dr tk os) () (sh (L.set d (dictOf (es++ [e]) (n+1))) life g dr tk os):=by
 unfold updateDictKeys;have e1:(hp L life).update d (z0 (·.push e))=hp (L.set d (dictOf (es++ [e]) (n+1))) life:=by
  refine (JV _ h).trans ?_;congr 2;show (Obj.mk _ _ (.dict (es.toArray.push e) (n+1)) _)=_;rw [yk]
 have hlt:d<L.length:=by
  rcases et d L.length with q|q
  ·exact q
  ·rw [eE q] at h;injection h
 have g2:(L.set d (dictOf (es++ [e]) (n+1)))[d]? =af (dictOf (es++ [e]) (n+1)):=by
  exact (dT hlt)
 refine bJ (by decide) (n₁:=1) (n₂:=2) (kN (o:=dictOf es n) (yI h)) ?_;dsimp only;refine bJ (ak rfl) (n₁:=1) (n₂:=1) (s₁:=sh (L.set d (dictOf (es++ [e]) (n+1))) life g dr tk os) (a:=()) ?_ ?_
 ·have:=zS (pr:=pr) (w:=w) (n₀:=n₀) (ann:=ann) (s:=sh L life g dr tk os) (f:=z0 (·.push e)) (part:=part) (o:=dictOf es n) (yI h) hd;dsimp only at this;rw [e1] at this;exact this
 ·unfold lookBehind;refine bJ (ax _) (n₁:=1) (n₂:=0) (kN (o:=dictOf (es++ [e]) (n+1)) (yI g2)) ?_;have:(dictOf (es++ [e]) (n+1)).data.pastItsLine=ae:=by
   show (if _ then _ else _)=ae;rw [if_neg];simp [sizeLine];exact qk (bS hz) rfl
  refine this▸ ?_;exact cZ
theorem Dc(h:L[d]? =af (dictOf es n))(hk:∀e∈es,e.hash≠k)(hd:n₀<=d)(hz:es.length<1000000):
  eG pr w n₀ ann 4 (dictPut d k (.int k t) v) (sh L life g dr tk os) () (sh (L.set d (dictOf (es++ [⟨k,.int k t,v⟩]) (n+1))) life g dr tk os):=by
 unfold dictPut;exact bJ (by decide) (n₁:=1) (n₂:=3) (v9 h hk) (tR h hd hz)
theorem xr(h0:0<=k)(h1:k<2305843009213693951)(h:L[d]? =af (dictOf es n))(hk:∀e∈es,e.hash≠k)(hd:n₀<=d)(hz:es.length<1000000):
  eG pr w n₀ ann 10 (dictSet d (.int k t) v) (sh L life g dr tk os) () (sh (L.set d (dictOf (es++ [⟨k,.int k t,v⟩]) (n+1))) life g dr (tk+1) os):=by
 unfold dictSet;refine eH _ (bJ (by decide) (n₁:=5) (n₂:=5) (JU h0 h1) ?_);unfold dictSetHashed;refine eH _ (bJ (by decide) (n₁:=1) (n₂:=4) (v9 h hk) ?_);exact bJ (by decide) (n₁:=1) (n₂:=3) Cw (tR h hd hz)
end
section
variable{n₀:Nat}{ann:Option ay}{L:List Obj}{life:Life}{g:Array nM}{dr:Drawn}{os:gJ}{d:bj}{es:List DictEntry}
variable{γ:Type}{n₁ n₂:Nat}{s₁ s_2:aM}{b b' b'':β}
theorem lI{f:γ->β->Sem (ForInStep β)}:eG pr w n₀ ann 0 (forIn ([]:List γ) b f) s b s:=cZ
theorem jq{x:γ}{xs:List γ}{f:γ->β->Sem (ForInStep β)}(hn:n₁+n₂<=n)(h:eG pr w n₀ ann n₁ (f x b) s (.yield b') s₁)(h':eG pr w n₀ ann n₂ (forIn xs b' f) s₁ b'' s_2):
  eG pr w n₀ ann n (forIn (x::xs) b f) s b'' s_2:=by
 rw [lj];exact bJ hn h h'
noncomputable def vS(pos:Pos)(v:Str):Sem ay:=do let x←mkText v;lh pos;aA x
noncomputable def pairsOf(pos:Pos)(ps:List (Int × Str)):List (Sem ay × Sem ay):=ps.map λx=>(mkInt x.1,vS pos x.2)
noncomputable def ents:List (Int × Str)->Nat->List DictEntry
 | [],_=>[]
 |x::r,t=>⟨x.1,.int x.1 t,.str x.2 (t+1)⟩::ents r (t+3)
theorem jW:∀(ps:List (Int × Str)) (t:Nat),(ents ps t).length=ps.length
 | [],_=>rfl
 |_::r,t=>by simp [ents,jW r]
theorem rL:∀(ps:List (Int × Str)) (t:Nat),(ents ps t).map (·.hash)=ps.map (·.1)
 | [],_=>rfl
 |_::r,t=>by simp [ents,rL r]
theorem Iw{v:Str}:eG pr w n₀ ann 2 (vS pos v) s (.str v s.toks) {s with toks:=s.toks+1}:=by
 unfold vS;exact bJ (ak rfl) (n₁:=1) (n₂:=1) EF (bJ (ax _) (n₁:=1) (n₂:=0) sQ cZ)
abbrev tS(k:Int):Prop:=0<=k/\k<2305843009213693951
theorem oO{L:List α}{d:Nat}{x:α}(h:L[d]? =af x):d<L.length:=by
 rcases et d L.length with q|q
 ·exact q
 ·rw [eE q] at h;injection h
theorem uw:∀{L:List α}{d:Nat}{x:α},L[d]? =af x->L.set d x=L
 | [],d,x,h=>by rfl
 |y::L,0,x,h=>by simp at h;subst h;rfl
 |y::L,d+1,x,h=>by simp only [w4];exact congrArg _ (uw (by simpa using h))
theorem Dd(hd:n₀<=d):∀(ps:List (Int × Str)) (L:List Obj) (es:List DictEntry) (n tk:Nat),L[d]? =af (dictOf es n)->(∀x∈ps,tS x.1)->((es.map (·.hash))++ps.map (·.1)).Nodup->es.length+ps.length<1000000->
  eG pr w n₀ ann (13*ps.length) (forIn (pairsOf pos ps) fS λx __s=>match x with
      |(k,v)=>do
       let kv←k
       let vv←holding [kv] v
       holding [kv,vv] (dictSet d kv vv)
       pure (dE fS)) (sh L life g dr tk os) fS (sh (L.set d (dictOf (es++ents ps tk) (n+ps.length))) life g dr (tk+3*ps.length) os):=by
 intro Ij;induction Ij with
 |nil=>
  intro L es n tk hL _ _ _;have:L.set d (dictOf (es++ents [] tk) (n+0))=L:=by
   simp only [ents,bB,lT];exact uw hL
  simp only [lq,yl,lT] at this ⊢;rw [this];exact lI
 |cons x r ih'=>
  intro L es n tk hL ok nd hz;obtain ⟨k,v⟩:=x;have hk:=ok (k,v) (fg ..);have hne:∀e∈es,e.hash≠k:=λe he q=>by
   rw [bk] at nd;exact nd.2.2 e.hash (og he) k (by exact fg) q
  have hlt:=oO hL;have ih:=ih' (L.set d (dictOf (es++ [⟨k,.int k tk,.str v (tk+1)⟩]) (n+1))) (es++ [⟨k,.int k tk,.str v (tk+1)⟩]) (n+1) (tk+3)
   (by exact (dT hlt)) (λx hx=>ok x (i8 _ hx)) (by simpa using nd) (by simp at hz ⊢;exact Vj hz)
  rw [oD,aQ,show n+1+r.length=n+((k,v)::r).length by simp;exact aN _ _ _,show tk+3+3*r.length=tk+3*((k,v)::r).length by simp;exact aN _ _ _,show [⟨k,.int k tk,.str v (tk+1)⟩]++ents r (tk+3)=ents ((k,v)::r) tk from rfl] at ih;refine jq (by simp;exact ar (cD _ _)) (n₁:=13) (n₂:=13*r.length) (b':=fS) (s₁:=sh (L.set d (dictOf (es++ [(⟨k,.int k tk,.str v (tk+1)⟩:DictEntry)]) (n+1))) life g dr (tk+3) os) ?_ ih;dsimp only;refine bJ (by decide) (n₁:=1) (n₂:=12) (wF (i:=k)) ?_;refine bJ (by decide) (n₁:=2) (n₂:=10) (eH _ (Iw (pos:=pos) (v:=v))) ?_;refine bJ (ax _) (n₁:=10) (n₂:=0) (a:=()) (eH _ (xr (t:=tk) (v:=.str v (tk+1)) hk.1 hk.2 hL hne hd (by simp at hz;exact aV (aF _ _) hz))) ?_;exact cZ
theorem xt{ps:List (Int × Str)}(UP:15<ps.length)(hd:n₀<=L.length)(ok:∀x∈ps,tS x.1)(nd:(ps.map (·.1)).Nodup)(hz:ps.length<1000000):
  eG pr w n₀ ann (13*ps.length+2) (vO (pairsOf pos ps)) (sh L life g dr tk os) L.length (sh (L++ [dictOf (ents ps tk) ps.length]) life g dr (tk+3*ps.length) os):=by
 dsimp only [vO];have e:({cls:=gB "dict",data:=Data.dict #[]}:Obj)=dictOf [] 0:=rfl;have al:=Ap (pr:=pr) (w:=w) (n₀:=n₀) (ann:=ann) (s:=sh L life g dr tk os) (o:=dictOf [] 0);dsimp only at al;rw [Iv,gx] at al;refine e▸ ?_;refine bJ (ar (cD _ _)) (n₁:=1) (n₂:=13*ps.length+1) al ?_;have UQ:(L++ [dictOf [] 0])[L.length]? =af (dictOf [] 0):=by simp
 have lp:=Dd (pos:=pos) (pr:=pr) (w:=w) (ann:=ann) (life:=life) (g:=g) (dr:=dr) (os:=os) hd ps _ [] 0 tk UQ ok (by simpa using nd) (by simpa using hz);rw [show (L++ [dictOf [] 0]).set L.length (dictOf ([]++ents ps tk) (0+ps.length))=L++ [dictOf (ents ps tk) ps.length] by simp] at lp;refine bJ (ax _) (n₁:=13*ps.length+1) (n₂:=0) (a:=()) (eH _ ?_) cZ;rw [if_neg (by unfold pairsOf;rw [aH];exact tu.mpr UP)];exact bJ (ar (cD _ _)) (n₁:=1) (n₂:=13*ps.length) Cw (bJ (ax _) (n₁:=13*ps.length) (n₂:=0) lp cZ)
theorem yJ:tw (.type "dict") "__iter__" =aA (af (.builtin "dict.__iter__")):=by kernel_rfl
theorem LG:r7 (.type "dict") (.type "dict")=aA ao:=by kernel_rfl
theorem zu(h:L[a]? =af (dictOf es n)):eG pr w n₀ ann 1 (typeOf (.ref a)) (sh L life g dr tk os) (.type "dict") (sh L life g dr tk os):=by
 show eG pr w n₀ ann 1 (do return (←loadPart a (af headPart)).cls) _ _ _;exact bJ (ax _) (n₁:=1) (n₂:=0) (kN (o:=dictOf es n) (yI h)) cZ
abbrev intKeyed(e:DictEntry):Prop:=∃k t v,e=⟨k,.int k t,v⟩
theorem Ar{tY:List DictEntry}{sn:Nat}(had:a≠d)(hd:n₀<=d)(ik:∀e∈tY,intKeyed e):
  ∀(m j:Nat) (L:List Obj) (ql:List DictEntry) (mn:Nat),j+m=tY.length->L[a]? =af (dictOf tY sn)->L[d]? =af (dictOf ql mn)->((ql.map (·.hash))++(tY.drop j).map (·.hash)).Nodup->ql.length+m<1000000->
  eG pr w n₀ ann (6*m) (forIn (cb j m) fS λi __s=>do
       let __do_lift←zO a
       match __do_lift[i]? with
        |some e=>do
         holding [e.key,e.val]
           (have __do_jp:=λ__r=>dictPut d e.hash e.key e.val;
           if bc=ao then do
            let __do_lift←dictFind d e.key e.hash
            if __do_lift.isSome=ao then do
              rule "dict.merge.duplicate-key"
              let __do_lift←newExc (gB "KeyError") [e.key]
              let __r←raiseNew __do_lift
              __do_jp __r
             else __do_jp ()
           else __do_jp ())
         let __do_lift←dictEpoch a
         if (__do_lift != sn)=ao then do
           unsupported "dict.changed-during-merge"
           pure (dE fS)
          else aA (dE fS)
        |x=>do
         unsupported "dict.changed-during-merge"
         pure (dE fS)) (sh L life g dr tk os) fS (sh (L.set d (dictOf (ql++tY.drop j) (mn+m))) life g dr tk os):=by
 intro Ij;induction Ij with
 |zero=>
  intro j L ql mn hj hA hM nd hz;have e0:tY.drop j= []:=List.drop_eq_nil_of_le (by exact ar hj.symm);have:L.set d (dictOf (ql++tY.drop j) (mn+0))=L:=by
   rw [e0,bB,lT];exact uw hM
  rw [this];exact lI
 |succ m ih'=>
  intro j L ql mn hj hA hM nd hz;have hjl:j<tY.length:=Vk hj;refine sO (ik tY[j] (rZ hjl)) λk t v he=>?_;have Sj:tY.drop j=⟨k,.int k t,v⟩::tY.drop (j+1):=by refine (he).symm▸ ?_;exact fM hjl
  rw [Sj] at nd;have hne:∀e∈ql,e.hash≠k:=λe h q=>by
   rw [bk] at nd;exact nd.2.2 e.hash (og h) k (by exact fg) q
  have hlt:=oO hM;have hA':(L.set d (dictOf (ql++ [⟨k,.int k t,v⟩]) (mn+1)))[a]? =af (dictOf tY sn):=by
   refine (bH (ym had)).trans ?_;exact hA
  have ih:=ih' (j+1) (L.set d (dictOf (ql++ [⟨k,.int k t,v⟩]) (mn+1))) (ql++ [⟨k,.int k t,v⟩]) (mn+1) ((aN _ _ _).trans hj) hA'
   (by exact (dT hlt)) (by simpa using nd) (by simp;exact Vj hz)
  rw [oD,aQ,show mn+1+m=mn+(m+1) by exact aN _ _ _] at ih;rw [Sj,kr];refine jq (ar (cD _ _)) (n₁:=6) (n₂:=6*m) (b':=fS) (s₁:=sh (L.set d (dictOf (ql++ [⟨k,.int k t,v⟩]) (mn+1))) life g dr tk os) ?_ ih;refine bJ (by decide) (n₁:=1) (n₂:=5) (kh hA) ?_;rw [mA,de hjl,he];dsimp only;refine bJ (ak rfl) (n₁:=4) (n₂:=1) (a:=()) (s₁:=sh (L.set d (dictOf (ql++ [⟨k,.int k t,v⟩]) (mn+1))) life g dr tk os) (eH _ ?_) ?_
  ·exact Dc hM hne hd (by exact aV (aF _ _) hz)
  ·refine bJ (ax _) (n₁:=1) (n₂:=0) (ur hA') ?_;rw [if_neg (by simp)];exact cZ
theorem GN{tY ql:List DictEntry}{sn mn:Nat}(had:a≠d)(ha1:(a==sysModules)=bc)(hd:n₀<=d)(ik:∀e∈tY,intKeyed e)(hA:L[a]? =af (dictOf tY sn))(hM:L[d]? =af (dictOf ql mn))
  (hne:ql≠ []) (nd:((ql.map (·.hash))++tY.map (·.hash)).Nodup) (hz:ql.length+tY.length<1000000):
  eG pr w n₀ ann (6*tY.length+5) (yn d (.ref a) bc) (sh L life g dr tk os) () (sh (L.set d (dictOf (ql++tY) (mn+tY.length))) life g dr tk os):=by
 unfold yn;refine bJ (ar (cD _ _)) (n₁:=1) (n₂:=6*tY.length+4) (a:=true) (s₁:=sh L life g dr tk os) ?_ ?_
 ·unfold isInstance;refine bJ (ax _) (n₁:=1) (n₂:=0) (zu hA) ?_;refine LG▸ ?_;exact cZ
 dsimp only;refine (if_pos rfl)▸ ?_;refine bJ (ar (cD _ _)) (n₁:=1) (n₂:=6*tY.length+3) (a:=af (.builtin "dict.__iter__")) (s₁:=sh L life g dr tk os) ?_ ?_
 ·unfold specialOf;refine bJ (ax _) (n₁:=1) (n₂:=0) (zu hA) ?_;refine yJ▸ ?_;exact cZ
 refine bJ (ar (fD _)) (n₁:=0) (n₂:=6*tY.length+3) (a:=true) (s₁:=sh L life g dr tk os) (by
  have e:((af (rA "dict.__iter__"):Option ay)==af (rA "dict.__iter__"))=ao:=by decide
  rw [e];exact cZ) ?_
 dsimp only;rw [ha1];rw [if_neg (by decide)];refine bJ (ar (cD _ _)) (n₁:=1) (n₂:=6*tY.length+2) (kh hM) ?_;rw [if_neg (by induction ql using aC with|nil=>exact absurd rfl hne|cons x r=>exact iK rfl)];refine bJ (ar (cD _ _)) (n₁:=1) (n₂:=6*tY.length+1) (kh hA) ?_;refine bJ (ar (cD _ _)) (n₁:=1) (n₂:=6*tY.length) (ur hA) ?_;rw [gx,vb];have lp:=Ar (pr:=pr) (w:=w) (ann:=ann) (life:=life) (g:=g) (dr:=dr) (os:=os) (tk:=tk) had hd ik tY.length 0 L ql mn (by exact cD _ _) hA hM (by simpa using nd) hz;rw [pS] at lp;exact bJ (ax _) (n₁:=6*tY.length) (n₂:=0) lp cZ
end
section
variable{n₀:Nat}{ann:Option ay}{L:List Obj}{life:Life}{g:Array nM}{dr:Drawn}{os:gJ}{d:bj}{es:List DictEntry}
noncomputable def ents2:List (Int × Str)->Nat->List DictEntry
 | [],_=>[]
 |x::r,t=>⟨x.1,.int x.1 t,.str x.2 (t+1)⟩::ents2 r (t+2)
noncomputable def vals2:List (Int × Str)->Nat->List (ay × ay)
 | [],_=>[]
 |x::r,t=>(.int x.1 t,.str x.2 (t+1))::vals2 r (t+2)
theorem xv:∀(ps:List (Int × Str)) (t:Nat),(ents2 ps t).length=ps.length
 | [],_=>rfl
 |_::r,t=>by simp [ents2,xv r]
theorem As:∀(ps:List (Int × Str)) (t:Nat),(ents2 ps t).map (·.hash)=ps.map (·.1)
 | [],_=>rfl
 |_::r,t=>by simp [ents2,As r]
theorem ux:∀(ps:List (Int × Str)) (tk:Nat),eG pr w n₀ ann (3*ps.length) (evalPairs (pairsOf pos ps)) (sh L life g dr tk os) (vals2 ps tk) (sh L life g dr (tk+2*ps.length) os)
 | [],tk=>cZ
 |x::r,tk=>by
  show eG pr w n₀ ann (3*(x::r).length) (evalPairs ((mkInt x.1,vS pos x.2)::pairsOf pos r)) _ _ _;dsimp only [evalPairs];refine bJ (by simp;exact ar (cD _ _)) (n₁:=1) (n₂:=3*r.length+2) (wF (i:=x.1)) ?_;refine bJ (ar (cD _ _)) (n₁:=2) (n₂:=3*r.length) (eH _ (Iw (pos:=pos) (v:=x.2))) ?_;have ih:=ux r (tk+2);rw [show tk+2+2*r.length=tk+2*(x::r).length by simp;exact aN _ _ _] at ih;exact bJ (ax _) (n₁:=3*r.length) (n₂:=0) (eH _ ih) cZ
theorem uy(hd:n₀<=d):∀(ps:List (Int × Str)) (t:Nat) (L:List Obj) (es:List DictEntry) (n tk:Nat),L[d]? =af (dictOf es n)->(∀x∈ps,tS x.1)->((es.map (·.hash))++ps.map (·.1)).Nodup->es.length+ps.length<1000000->
  eG pr w n₀ ann (10*ps.length) (forIn (vals2 ps t) fS λx __s=>match x with
        |(k,v)=>do
         dictSet d k v
         pure (dE fS)) (sh L life g dr tk os) fS (sh (L.set d (dictOf (es++ents2 ps t) (n+ps.length))) life g dr (tk+ps.length) os)
 | [],t,L,es,n,tk,hL,_,_,_=>by
  have:L.set d (dictOf (es++ents2 [] t) (n+0))=L:=by
   simp only [ents2,bB,lT];exact uw hL
  simp only [lq,yl,lT] at this ⊢;rw [this];exact lI
 |x::r,t,L,es,n,tk,hL,ok,nd,hz=>by
  obtain ⟨k,v⟩:=x;have hk:=ok (k,v) (fg ..);have hne:∀e∈es,e.hash≠k:=λe he q=>by
   rw [bk] at nd;exact nd.2.2 e.hash (og he) k (by exact fg) q
  have hlt:=oO hL;have ih:=uy hd r (t+2) (L.set d (dictOf (es++ [⟨k,.int k t,.str v (t+1)⟩]) (n+1))) (es++ [⟨k,.int k t,.str v (t+1)⟩]) (n+1) (tk+1)
   (by exact (dT hlt)) (λx hx=>ok x (i8 _ hx)) (by simpa using nd) (by simp at hz ⊢;exact Vj hz)
  rw [oD,aQ,show n+1+r.length=n+((k,v)::r).length by simp;exact aN _ _ _,show tk+1+r.length=tk+((k,v)::r).length by simp;exact aN _ _ _,show [⟨k,.int k t,.str v (t+1)⟩]++ents2 r (t+2)=ents2 ((k,v)::r) t from rfl] at ih;refine jq (by simp;exact ar (cD _ _)) (n₁:=10) (n₂:=10*r.length) (b':=fS) (s₁:=sh (L.set d (dictOf (es++ [(⟨k,.int k t,.str v (t+1)⟩:DictEntry)]) (n+1))) life g dr (tk+1) os) ?_ ih;dsimp only;exact bJ (ax _) (n₁:=10) (n₂:=0) (a:=()) (xr (t:=t) (v:=.str v (t+1)) hk.1 hk.2 hL hne hd (by simp at hz;exact aV (aF _ _) hz)) cZ
theorem BY{ps:List (Int × Str)}(UP:ps.length<=15)(hd:n₀<=L.length)(ok:∀x∈ps,tS x.1)(nd:(ps.map (·.1)).Nodup):
  eG pr w n₀ ann (13*ps.length+1) (vO (pairsOf pos ps)) (sh L life g dr tk os) L.length (sh (L++ [dictOf (ents2 ps tk) ps.length]) life g dr (tk+3*ps.length) os):=by
 dsimp only [vO];have e:({cls:=gB "dict",data:=Data.dict #[]}:Obj)=dictOf [] 0:=rfl;have al:=Ap (pr:=pr) (w:=w) (n₀:=n₀) (ann:=ann) (s:=sh L life g dr tk os) (o:=dictOf [] 0);dsimp only at al;rw [Iv,gx] at al;refine e▸ ?_;refine bJ (ar (cD _ _)) (n₁:=1) (n₂:=13*ps.length) al ?_;have UQ:(L++ [dictOf [] 0])[L.length]? =af (dictOf [] 0):=by simp
 have lp:=uy (pr:=pr) (w:=w) (ann:=ann) (life:=life) (g:=g) (dr:=dr) (os:=os) hd ps tk _ [] 0 (tk+2*ps.length) UQ ok (by simpa using nd) (by simp;exact Iu UP rfl);rw [show (L++ [dictOf [] 0]).set L.length (dictOf ([]++ents2 ps tk) (0+ps.length))=L++ [dictOf (ents2 ps tk) ps.length] by simp,show tk+2*ps.length+ps.length=tk+3*ps.length from (dC _ _ _).trans (congrArg _ (Nat.succ_mul 2 _).symm)] at lp;refine bJ (ax _) (n₁:=13*ps.length) (n₂:=0) (a:=()) (eH _ ?_) cZ;rw [if_pos (by dsimp only [pairsOf];rw [aH];exact UP)];refine bJ (ar (Nat.add_mul 3 10 _).symm) (n₁:=3*ps.length) (n₂:=10*ps.length) (ux ps tk) (eH _ ?_);exact bJ (ax _) (n₁:=10*ps.length) (n₂:=0) lp cZ
theorem GO:∀(ps:List (Int × Str)) (t:Nat),∀e∈ents ps t,intKeyed e:=by
 intro ps;induction ps with
 |nil=>intro t e he;obtain ⟨⟩:=he
 |cons x r ih=>
  intro t e he;rcases jJ he with rfl|he
  ·exact ⟨_,_,_,rfl⟩
  ·exact ih _ e he
theorem EG:∀(ps:List (Int × Str)) (t:Nat),∀e∈ents2 ps t,intKeyed e:=by
 intro ps;induction ps with
 |nil=>intro t e he;obtain ⟨⟩:=he
 |cons x r ih=>
  intro t e he;rcases jJ he with rfl|he
  ·exact ⟨_,_,_,rfl⟩
  ·exact ih _ e he
noncomputable def wG(run:List (Sem ay × Sem ay))(main:Option bj):Sem (Option bj):=
  if run.isEmpty=ao then aA main
  else
   match main with
   |none=>do
    let __do_lift←vO run
    pure (af __do_lift)
   |some d=>do
    let sub←holding [cB d] (vO run)
    (holding [cB d,cB sub] (yn d (cB sub) bc)).onRaise λx=>do
      let _←holding [cB d,x] (runValue (Code.builtin "proto.let_go" {}))
      pure ()
    pure (af d)
abbrev BZ:=Option bj × List (Sem ay × Sem ay)
abbrev Itm:=Option (Sem ay) × Sem ay
structure Ym(F:Itm->BZ->Sem (ForInStep BZ)):Prop where
 at_:∀(k v:Sem ay) (main:Option bj) (run:List (Sem ay × Sem ay)),F (af k,v) (main,run)=
  if ((run++ [(k,v)]).length==17)=ao then (wG (run++ [(k,v)]) main>>=λm=>aA (dE (m,[]))) else aA (dE (main,run++ [(k,v)]))
theorem De(items:List Itm):∃F:Itm->BZ->Sem (ForInStep BZ),Ym F/\dictDisplay items=(forIn items ((ae,[]):BZ) F>>=λx=>wG x.2 x.1>>=λr=>match r with
  |some d=>aA (cB d)
  |none=>newDict):=⟨_,⟨λ_ _ _ _=>rfl⟩,rfl⟩
def itemsOf(pos:Pos)(ps:List (Int × Str)):List Itm:=ps.map λx=>(af (mkInt x.1),vS pos x.2)
theorem EH{ps:List (Int × Str)}(UP:15<ps.length)(hd:n₀<=L.length)(ok:∀x∈ps,tS x.1)(nd:(ps.map (·.1)).Nodup)(hz:ps.length<1000000):
  eG pr w n₀ ann (13*ps.length+2) (wG (pairsOf pos ps) ae) (sh L life g dr tk os) (af L.length) (sh (L++ [dictOf (ents ps tk) ps.length]) life g dr (tk+3*ps.length) os):=by
 dsimp only [wG];rw [if_neg (by dsimp only [pairsOf];induction ps using aC with|nil=>simp at UP|cons x r=>exact iK rfl)];exact bJ (ax _) (n₁:=13*ps.length+2) (n₂:=0) (xt UP hd ok nd hz) cZ
theorem xw{L:List α}{d:Nat}{x y:α}(h:L[d]? =af x):(L++ [y])[d]? =af x:=by
 refine (aJ (oO h)).trans ?_;exact h
theorem Au{ps:List (Int × Str)}{ql tY:List DictEntry}{mn m₁:Nat}(hps:ps≠ [])(hsub:eG pr w n₀ ann m₁ (vO (pairsOf pos ps)) (sh L life g dr tk os) L.length (sh (L++ [dictOf tY ps.length]) life g dr (tk+3*ps.length) os))
  (hl:tY.length=ps.length) (ik:∀e∈tY,intKeyed e) (hM:L[d]? =af (dictOf ql mn)) (hd:n₀<=d) (hL:11<=L.length) (hne:ql≠ []) (nd:((ql.map (·.hash))++tY.map (·.hash)).Nodup) (hz:ql.length+ps.length<1000000):
  eG pr w n₀ ann (m₁+6*ps.length+5) (wG (pairsOf pos ps) (af d)) (sh L life g dr tk os) (af d) (sh ((L.set d (dictOf (ql++tY) (mn+ps.length)))++ [dictOf tY ps.length]) life g dr (tk+3*ps.length) os):=by
 have hlt:=oO hM;dsimp only [wG];rw [if_neg (by dsimp only [pairsOf];induction ps using aC with|nil=>exact absurd rfl hps|cons x r=>exact iK rfl)];refine bJ (ax _) (n₁:=m₁) (n₂:=6*ps.length+5) (eH _ hsub) ?_;have mg:=GN (pr:=pr) (w:=w) (n₀:=n₀) (ann:=ann) (life:=life) (g:=g) (dr:=dr) (os:=os) (tk:=tk+3*ps.length) (L:=L++ [dictOf tY ps.length]) (a:=L.length) (d:=d) (tY:=tY) (sn:=ps.length) (ql:=ql) (mn:=mn) (eM hlt) (by
   show (L.length==1)=bc;have:L.length≠1:=eM (ai (ak rfl) hL);simpa using this) hd ik (by simp) (xw hM) hne nd (hl▸hz)
 rw [hl,vc _ _ hlt] at mg;exact bJ (ax _) (n₁:=6*ps.length+5) (n₂:=0) (a:=()) (C9 (eH _ mg)) cZ
theorem Av{F:Itm->BZ->Sem (ForInStep BZ)}(hF:Ym F){main:Option bj}{rest:List Itm}{b:BZ}:∀(ps run:List (Int × Str)),run.length+ps.length<17->
  eG pr w n₀ ann n (forIn rest ((main,pairsOf pos (run++ps)):BZ) F) s b s'->eG pr w n₀ ann n (forIn (itemsOf pos ps++rest) ((main,pairsOf pos run):BZ) F) s b s'
 | [],run,_,h=>by rw [bB] at h;exact h
 |x::r,run,hl,h=>by
  have e:pairsOf pos run++ [(mkInt x.1,vS pos x.2)]=pairsOf pos (run++ [x]):=by simp [pairsOf]
  refine jq (ar (fD _)) (n₁:=0) (n₂:=n) (b':=(main,pairsOf pos (run++ [x]))) (s₁:=s) ?_ (Av hF r (run++ [x]) (by simp at hl ⊢;exact Vj hl) (by rw [aQ];exact h));rw [hF.at_,e,if_neg (by simp [pairsOf] at hl ⊢;exact bP (RE (dF hl)))];exact cZ
theorem Aw{F:Itm->BZ->Sem (ForInStep BZ)}(hF:Ym F){main m':Option bj}{rest:List Itm}{b:BZ}{s₁:aM}{n₁ n₂:Nat}(hn:n₁+n₂<=n)(c:List (Int × Str))(x:Int × Str)(hc:c.length=16)
  (hfl:eG pr w n₀ ann n₁ (wG (pairsOf pos (c++ [x])) main) s m' s₁) (h:eG pr w n₀ ann n₂ (forIn rest ((m',[]):BZ) F) s₁ b s'):
  eG pr w n₀ ann n (forIn (itemsOf pos (c++ [x])++rest) ((main,[]):BZ) F) s b s':=by
 have e:itemsOf pos (c++ [x])++rest=itemsOf pos c++((af (mkInt x.1),vS pos x.2)::rest):=by simp [itemsOf]
 refine e▸ ?_;refine Av (main:=main) hF c [] (by simp;exact Iu (ar hc) rfl) ?_;have e2:pairsOf pos ([]++c)++ [(mkInt x.1,vS pos x.2)]=pairsOf pos (c++ [x]):=by simp [pairsOf]
 refine jq hn (n₁:=n₁) (n₂:=n₂) (b':=(m',[])) (s₁:=s₁) ?_ h;rw [hF.at_,e2,if_pos (by simp [pairsOf,hc])];exact bJ (ax _) (n₁:=n₁) (n₂:=0) hfl cZ
noncomputable def subsOf:List (List (Int × Str))->Nat->List Obj
 | [],_=>[]
 |c::r,t=>dictOf (ents c t) 17::subsOf r (t+51)
theorem uz:∀(a b:List (Int × Str)) (t:Nat),ents (a++b) t=ents a t++ents b (t+3*a.length)
 | [],b,t=>by simp [ents]
 |x::r,b,t=>by
  simp only [fT,ents,uz r b,bb];rw [show t+3+3*r.length=t+3*(r.length+1) by exact aN _ _ _]
theorem EI{F:Itm->BZ->Sem (ForInStep BZ)}(hF:Ym F)(hd:n₀<=d)(Rp:(11:Nat)<=d){b:BZ}{n₂:Nat}{rest:List Itm}:∀(cs:List (List (Int × Str))) (L:List Obj) (ql:List DictEntry) (mn tk n:Nat),(∀c∈cs,c.length=17)->L[d]? =af (dictOf ql mn)->ql≠ []->
  (∀x∈cs.flatten,tS x.1)->((ql.map (·.hash))++cs.flatten.map (·.1)).Nodup->ql.length+17*cs.length<1000000->340*cs.length+n₂<=n->
  eG pr w n₀ ann n₂ (forIn rest ((af d,[]):BZ) F) (sh (L.set d (dictOf (ql++ents cs.flatten tk) (mn+17*cs.length))++subsOf cs tk) life g dr (tk+51*cs.length) os) b s'->
  eG pr w n₀ ann n (forIn (itemsOf pos cs.flatten++rest) ((af d,[]):BZ) F) (sh L life g dr tk os) b s':=by
 intro Ij;induction Ij with
 |nil=>
  intro L ql mn tk n _ hM _ _ _ _ hn h;simp only [List.flatten_nil,ents,bB,lq,yl,lT,subsOf] at h;rw [uw hM] at h;exact rK h (by simpa using hn)
 |cons c r ih'=>
  intro L ql mn tk n hc hM hne ok nd hz hn h;have Ck:=hc c (fg ..);obtain ⟨c',x,rfl⟩:∃c' x,c=c'++ [x]:=⟨c.dropLast,c.getLast (by intro e;rw [e] at Ck;trivial),(nW _).symm⟩;have hlt:=oO hM;rw [yo] at ok nd h ⊢;have Ze:∀y∈c'++ [x],tS y.1:=λy hy=>ok y (cf _ hy);rw [cw] at nd;have ndc:((c'++ [x]).map (·.1)).Nodup:=(bk.mp (bk.mp nd).2.1).1;have ndm:((ql.map (·.hash))++((ents (c'++ [x]) tk).map (·.hash))).Nodup:=by
   rw [rL];rw [←aQ] at nd;exact (bk.mp nd).1
  have hsub:=xt (pr:=pr) (w:=w) (n₀:=n₀) (ann:=ann) (pos:=pos) (L:=L) (life:=life) (g:=g) (dr:=dr) (tk:=tk) (os:=os) (ps:=c'++ [x]) (tgq Ck rfl) (by exact bS (aV hd hlt)) Ze ndc (Iu (ar Ck) rfl);have fl:=Au (d:=d) (ql:=ql) (mn:=mn) (by simp) hsub (jW _ _) (GO _ _) hM hd (by exact aD Rp hlt) hne ndm (by simp at hz;exact aV (bF (ai (ar Ck) (dH _ _)) _) hz);rw [Ck] at fl;have hM':(L.set d (dictOf (ql++ents (c'++ [x]) tk) (mn+17))++ [dictOf (ents (c'++ [x]) tk) 17])[d]? =af (dictOf (ql++ents (c'++ [x]) tk) (mn+17)):=by
   refine xw ?_;exact (dT hlt)
  have eI:itemsOf pos (c'++ [x]++r.flatten)++rest=itemsOf pos (c'++ [x])++(itemsOf pos r.flatten++rest):=by simp [itemsOf]
  refine eI▸ ?_;refine Aw hF (n₁:=340) (n₂:=340*r.length+n₂) (by simp at hn;exact ai (ar ((dC _ _ _).symm.trans (congrArg (· +_) (cD _ _)))) hn) c' x (by simp at Ck;exact Ck) (rK fl (by exact dH _ _)) ?_;refine ih' _ _ _ _ _ (λy hy=>hc y (i8 _ hy)) hM' (by simp [hne]) (λy hy=>ok y (cH _ hy)) (by
    rw [cw,rL,aQ];exact nd) (by simp [jW] at Ck hz ⊢;rw [Ck];exact aV (ar (aN _ 17 _)) hz) (ax _) ?_
  have e1:ql++ents (c'++ [x]) tk++ents r.flatten (tk+3*17)=ql++ents (c'++ [x]++r.flatten) tk:=by
   rw [aQ,uz (c'++ [x]) r.flatten tk,Ck]
  rw [vc _ _ (by rw [dI];exact hlt),oD,e1,aQ,show mn+17+17*r.length=mn+17*(r.length+1) by exact aN _ _ _,show tk+3*17+51*r.length=tk+51*(r.length+1) by exact aN _ _ _];simpa [subsOf] using h
end
section
variable{n₀:Nat}{ann:Option ay}{L:List Obj}{life:Life}{g:Array nM}{dr:Drawn}{os:gJ}
theorem Df(hd:n₀<=L.length)(Rp:11<=L.length)(c0 last:List (Int × Str))(cs:List (List (Int × Str)))(h0:c0.length=17)(hcs:∀c∈cs,c.length=17)(hl:last≠ [])(OC:last.length<=15)(hcl:cs.length<1000)
  (ok:∀x∈c0++cs.flatten++last,tS x.1) (nd:((c0++cs.flatten++last).map (·.1)).Nodup):
  eG pr w n₀ ann (340*(cs.length+2)) (dictDisplay (itemsOf pos (c0++cs.flatten++last))) (sh L life g dr tk os) (.ref L.length)
   (sh (L++dictOf (ents (c0++cs.flatten) tk++ents2 last (tk+51*(cs.length+1))) (17+17*cs.length+last.length)::(subsOf cs (tk+51)++ [dictOf (ents2 last (tk+51*(cs.length+1))) last.length])) life g dr (tk+51*(cs.length+1)+3*last.length) os):=by
 refine aR (De (itemsOf pos (c0++cs.flatten++last))) λF hF e=>?_;refine e▸ ?_;obtain ⟨c',x,rfl⟩:∃c' x,c0=c'++ [x]:=⟨c0.dropLast,c0.getLast (by intro e;rw [e] at h0;trivial),(nW _).symm⟩;have Zf:cs.flatten.length=17*cs.length:=by
  clear ok nd e hcl;induction cs with
  |nil=>rfl
  |cons c r ih=>rw [yo,aq,hcs c (fg ..),ih λy hy=>hcs y (i8 _ hy),bb];exact cD _ _
 have ok0:∀y∈c'++ [x],tS y.1:=λy hy=>ok y (cf _ (cf _ hy));have Ze:∀y∈cs.flatten,tS y.1:=λy hy=>ok y (cf _ (cH _ hy));have okl:∀y∈last,tS y.1:=λy hy=>ok y (cH _ hy);rw [cw,cw] at nd;have W6:=(bk.mp nd).1;have nd0:=(bk.mp W6).1;have ndl:=(bk.mp nd).2.1;have f0:=EH (pr:=pr) (w:=w) (n₀:=n₀) (ann:=ann) (pos:=pos) (L:=L) (life:=life) (g:=g) (dr:=dr) (tk:=tk) (os:=os) (ps:=c'++ [x]) (tgq h0 rfl) hd ok0 nd0 (Iu (ar h0) rfl);rw [h0] at f0;have hM:(L++ [dictOf (ents (c'++ [x]) tk) 17])[L.length]? =af (dictOf (ents (c'++ [x]) tk) 17):=by simp
 let L_1:List Obj:=L++dictOf (ents (c'++ [x]) tk++ents cs.flatten (tk+51)) (17+17*cs.length)::subsOf cs (tk+51)
 have W7:(L++ [dictOf (ents (c'++ [x]) tk) 17]).set L.length (dictOf (ents (c'++ [x]) tk++ents cs.flatten (tk+51)) (17+17*cs.length))++subsOf cs (tk+51)=L_1:=by simp [L_1]
 have W8:L_1[L.length]? =af (dictOf (ents (c'++ [x]) tk++ents cs.flatten (tk+51)) (17+17*cs.length)):=by simp [L_1]
 have ee:ents (c'++ [x]) tk++ents cs.flatten (tk+51)=ents (c'++ [x]++cs.flatten) tk:=by
  rw [uz (c'++ [x]) cs.flatten tk,h0]
 refine bJ (ax _) (n₁:=340*(cs.length+1)) (n₂:=340) (a:=((af L.length,pairsOf pos last):BZ)) (s₁:=sh L_1 life g dr (tk+51*(cs.length+1)) os) ?_ ?_
 ·have eI:itemsOf pos (c'++ [x]++cs.flatten++last)=itemsOf pos (c'++ [x])++(itemsOf pos cs.flatten++itemsOf pos last):=by simp [itemsOf]
  refine eI▸ ?_;refine Aw hF (n₁:=340) (n₂:=340*cs.length) (ar (cD _ _)) c' x (by simp at h0;exact hV (ar h0) (ar h0.symm)) (rK f0 (by exact dH _ _)) ?_;refine EI hF hd Rp (n₂:=0) cs _ _ 17 _ _ hcs hM (by intro q;have:=congrArg ve q;rw [jW,h0] at this;trivial) Ze (by rw [rL];exact W6) (by rw [jW];exact Iu (dS (ar h0) (c9 17 (bS hcl))) rfl) (by exact ax _) ?_;rw [show tk+3*17=tk+51 by rfl,W7,show tk+51+51*cs.length=tk+51*(cs.length+1) by exact aN _ _ _];have:=Av (pr:=pr) (w:=w) (n₀:=n₀) (ann:=ann) (pos:=pos) (n:=0) hF (main:=af L.length) (rest:=[]) (b:=(af L.length,pairsOf pos last)) (s:=sh L_1 life g dr (tk+51*(cs.length+1)) os) (s':=sh L_1 life g dr (tk+51*(cs.length+1)) os) last [] (by simp;exact Iu OC rfl) (by rw [ey];exact lI);rw [bB] at this;exact this
 ·have hlen:11<=L_1.length:=by simp [L_1];exact jg Rp
  have hsub:=BY (pr:=pr) (w:=w) (n₀:=n₀) (ann:=ann) (pos:=pos) (L:=L_1) (life:=life) (g:=g) (dr:=dr) (tk:=tk+51*(cs.length+1)) (os:=os) OC (by simp [L_1];exact jg hd) okl ndl;have fl:=Au (d:=L.length) (ql:=ents (c'++ [x]) tk++ents cs.flatten (tk+51)) (mn:=17+17*cs.length) hl hsub (xv _ _) (EG _ _) W8 hd hlen
   (by intro q;have:=congrArg ve q;rw [aq,jW,h0] at this;simp at this) (by
    rw [ee,rL,As,cw];exact nd) (by rw [ee,jW,aq,h0,Zf];exact Iu (dS (bF (c9 17 (bS hcl)) 17) OC) rfl)
  have eF:L_1.set L.length (dictOf (ents (c'++ [x]) tk++ents cs.flatten (tk+51)++ents2 last (tk+51*(cs.length+1))) (17+17*cs.length+last.length))++ [dictOf (ents2 last (tk+51*(cs.length+1))) last.length]=
    L++dictOf (ents (c'++ [x]++cs.flatten) tk++ents2 last (tk+51*(cs.length+1))) (17+17*cs.length+last.length)::(subsOf cs (tk+51)++ [dictOf (ents2 last (tk+51*(cs.length+1))) last.length]):=by
   rw [ee];simp [L_1]
  rw [eF] at fl;exact bJ (ax _) (n₁:=340) (n₂:=0) (rK fl (qk (cg (dS (cg (c9 13 OC) 1) (c9 6 OC)) 5) rfl)) cZ
noncomputable def rising:List Int->Bool
 |a::b::r=>decide (a<b)&&rising (b::r)
 |_=>ao
theorem Cy:∀(l:List Int) (a:Int),rising (a::l)=ao->∀x∈l,a<x
 |b::r,a,h,x,hx=>by
  simp only [rising,aS,decide_eq_true_eq] at h;rcases jJ hx with rfl|hx
  ·exact h.1
  ·exact yj h.1 (Cy r b h.2 x hx)
theorem sR:∀l:List Int,rising l=ao->l.Nodup
 | [],_=>dy
 |a::r,h=>by
  refine bu.mpr ⟨λhm=>Int.lt_irrefl a (Cy r a h a hm),sR r ?_⟩;induction r using aC with
  |nil=>rfl
  |cons b r'=>simp only [rising,aS] at h;exact h.2
end
set_option genCtorIdx false in
inductive V where
 |none
 |bool (b:Bool)
 |int (i:Int)
 |str (s:Str)
 |ref (i:Nat)
 |top (a:bj)
 |type (n:String)
 |bi (id:String)
 deriving Inhabited
open V renaming none->fU,bool->BQ,int->bD,str->bp,ref->ir,top->qS,type->qc,bi->zm
noncomputable def V.ctorIdx(x:V):Nat:=V.casesOn x 0 (λ_=>1) (λ_=>2) (λ_=>3) (λ_=>4) (λ_=>5) (λ_=>6) (λ_=>7)
set_option genCtorIdx false in
inductive O where
 |list (xs:List V)
 |tuple (xs:List V)
 |dict (es:List (Str × V))
 |qw (es:List (Int × V))
 |set (xs:List Str)
 |B1 (xs:List Int)
 |inst (C:bj) (d:Nat)
 |ns (es:List (Str × V))
 |slots (C:bj) (d:Nat) (vs:List (Option V))
 |exc (C:bj) (args:Nat)
 |kO (l:Nat) (k:Nat)
 |dead
 |next (it:Nat)
 |range (a b c:Int)
 |values (d:Nat)
open O renaming list->cM,tuple->jk,dict->qh,kO->mi,next->xj,range->dB,values->vq
noncomputable def O.ctorIdx(x:O):Nat:=O.casesOn x (λ_=>0) (λ_=>1) (λ_=>2) (λ_=>3) (λ_=>4) (λ_=>5) (λ_ _=>6) (λ_=>7) (λ_ _ _=>8) (λ_ _=>9) (λ_ _=>10) 11 (λ_=>12) (λ_ _ _=>13) (λ_=>14)
abbrev eB:=List (Str × V)
structure eP where
 fr:eB
 os:List O
abbrev M(α:Type):=List Nat->eP->Option (α × eP)
noncomputable instance:Monad M where
 pure a:=λ_ s=>af (a,s)
 bind m f:=λz s=>match m z s with|some (a,s')=>f a z s'|none=>ae
noncomputable def fail:M α:=λ_ _=>ae
set_option genCtorIdx false in
inductive Fl where
 |next|brk|cont
 |ret (v:V)
 |exc (i:Nat)
open Fl renaming next->bo
noncomputable def Fl.ctorIdx(x:Fl):Nat:=Fl.casesOn x 0 1 2 (λ_=>3) (λ_=>4)
set_option genCtorIdx false in
inductive CR where
 |ret (v:V)
 |exc (i:Nat)
open CR renaming ret->Ey
noncomputable def CR.ctorIdx(x:CR):Nat:=CR.casesOn x (λ_=>0) (λ_=>1)
structure Cx where
 K:r8
 aj:List (bj × O)
 call:V->List V->List O->List Nat->Option (CR × List O)
 fuel:Nat
 hd:Bool
 ib:List bj
set_option backward.match.sparseCases false in
noncomputable def ki:ay->Option V
 | .none=>af .none
 | .bool b=>af (.bool b)
 | .int i _=>af (.int i)
 | .str s _=>af (.str s)
 | .type n=>af (.type n)
 | .builtin i=>af (.bi i)
 | .ref a=>af (.top a)
 |_=>ae
noncomputable def putF:eB->Str->V->eB
 | [],x,v=>[(x,v)]
 |(y,u)::r,x,v=>if y=x then (y,v)::r else (y,u)::putF r x v
noncomputable def getF:eB->Str->Option V
 | [],_=>ae
 |(y,u)::r,x=>if y=x then af u else getF r x
noncomputable def lift(o:Option α):M α:=λ_ s=>o.map λa=>(a,s)
noncomputable def bw(x:Str):M V:=λ_ s=>(getF s.fr x).map λv=>(v,s)
set_option backward.match.sparseCases false in
noncomputable def setC(sc:Scope)(x:Str)(v:V):M Unit:=λ_ s=>match sc.names.lookup x with
 |some .local|some .cell=>af ((),{s with fr:=putF s.fr x v})
 |_=>ae
noncomputable def sizeOk:O->Bool
 | .list xs=>decide (xs.length<=1000000)
 | .tuple xs=>decide (xs.length<=1000000)
 | .dict xs=>decide (xs.length<=1000000)
 | .set xs=>decide (xs.length<4000)
 | .ns es=>decide (es.length<=1000)
 | .qw _=>bc
 | .B1 _=>bc
 |_=>ao
noncomputable def alloc(o:O):M V:=λ_ s=>if sizeOk o then af (.ref s.os.length,{s with os:=s.os++ [o]}) else ae
set_option backward.match.sparseCases false in
noncomputable def el(c:Cx)(v:V):M O:=λ_ s=>match v with
 | .ref i=>(s.os[i]?).map λo=>(o,s)
 | .top a=>(c.aj.lookup a).map λo=>(o,s)
 |_=>ae
noncomputable def gU(i:Nat)(o:O):M Unit:=λz s=>if i<s.os.length/\sizeOk o=ao/\i∉z then af ((),{s with os:=s.os.set i o}) else ae
section
set_option backward.match.sparseCases false
@[reducible] noncomputable def wa(o:Option β)(f:β->M α)(k:M α):M α:=match o with
 |some b=>f b
 |ae=>k
@[reducible] noncomputable def e9(o:Option β)(f:β->M α):M α:=wa o f fail
@[reducible] noncomputable def O.jX:O->Option (List V)
 | .list xs=>af xs
 |_=>ae
@[reducible] noncomputable def O.uA:O->Option (List V)
 | .tuple xs=>af xs
 |_=>ae
@[reducible] noncomputable def O.uB:O->Option (List (Str × V))
 | .dict xs=>af xs
 |_=>ae
@[reducible] noncomputable def O.LH:O->Option (List (Int × V))
 | .qw xs=>af xs
 |_=>ae
@[reducible] noncomputable def O.SM:O->Option (List Str)
 | .set xs=>af xs
 |_=>ae
@[reducible] noncomputable def O.RF:O->Option (List Int)
 | .B1 xs=>af xs
 |_=>ae
@[reducible] noncomputable def O.Vl:O->Option (List (Str × V))
 | .ns xs=>af xs
 |_=>ae
@[reducible] noncomputable def O.RG:O->Option (Nat)
 | .next xs=>af xs
 |_=>ae
@[reducible] noncomputable def O.Iy:O->Option (Nat)
 | .values xs=>af xs
 |_=>ae
@[reducible] noncomputable def O.Iz:O->Option (bj × Nat)
 | .inst a b=>af (a,b)
 |_=>ae
@[reducible] noncomputable def O.SN:O->Option (bj × Nat)
 | .exc a b=>af (a,b)
 |_=>ae
@[reducible] noncomputable def O.GP:O->Option (Nat × Nat)
 | .kO a b=>af (a,b)
 |_=>ae
@[reducible] noncomputable def O.LI:O->Option (Int × Int × Int)
 | .range a b c=>af (a,b,c)
 |_=>ae
@[reducible] noncomputable def O.GQ:O->Option (bj × Nat × List (Option V))
 | .slots a b c=>af (a,b,c)
 |_=>ae
@[reducible] noncomputable def V.ml:V->Option Int
 | .int x=>af x
 |_=>ae
@[reducible] noncomputable def V.jU:V->Option Str
 | .str x=>af x
 |_=>ae
@[reducible] noncomputable def V.ny:V->Option Nat
 | .ref x=>af x
 |_=>ae
@[reducible] noncomputable def V.LJ:V->Option bj
 | .top x=>af x
 |_=>ae
@[reducible] noncomputable def V.RH:V->Option String
 | .type x=>af x
 |_=>ae
@[reducible] noncomputable def V.biV:V->Option String
 | .bi x=>af x
 |_=>ae
@[reducible] noncomputable def V.RJ:V->Option Bool
 | .none=>af bc
 | .bool b=>af b
 |_=>ae
@[reducible] noncomputable def oW:List α->Option α
 | [x]=>af x
 |_=>ae
@[reducible] noncomputable def refOf:Option (Option ay)->Option bj
 |some (af (.ref p))=>af p
 |_=>ae
@[reducible] noncomputable def fdOf:Option Obj->Option kR
 |some ⟨_,_,.func fd,_⟩=>af fd
 |_=>ae
@[reducible] noncomputable def Pe:Option Obj->Option oU
 |some ⟨_,_,.cls cd,_⟩=>af cd
 |_=>ae
@[reducible] noncomputable def GR:List α->Option Unit
 | []=>af ()
 |_=>ae
end
noncomputable def z3(x:Str):Bool:=x==ah "__debug__" ||x==ah "__name__" ||x==ah "__classdict__"
set_option backward.match.sparseCases false in
noncomputable def zv(c:Cx)(sc:Scope)(up:eB)(x:Str):M V:=if z3 x then fail else match sc.names.lookup x with
 |some .local=>bw x
 |some .cell=>bw x
 |some .free=>lift (getF up x)
 |some .globalImplicit=>match nsIn c.K gm x with
  |some (af v)=>lift (ki v)
  |some ae=>lift ((tA x).bind ki)
  |ae=>fail
 |_=>fail
set_option backward.match.sparseCases false in
noncomputable def zx(sc:Scope)(fr up:eB)(x:Str):Option V:=match sc.names.lookup x with
 |some .cell=>getF fr x
 |some .free=>getF up x
 |_=>ae
noncomputable def RK(inner sc:Scope)(fr up:eB):eB:=inner.names.filterMap λp=>if p.2= .free then (zx sc fr up p.1).map λv=>(p.1,v) else ae
set_option backward.match.sparseCases false in
noncomputable def SO:Const->M V
 | .none=>aA .none
 | .bool b=>aA (.bool b)
 | .int i=>aA (.int i)
 | .str s=>aA (.str s)
 |_=>fail
noncomputable def qV(k:Int)(n:Nat):Option Nat:=
 if k.natAbs<=1000000000 then oV k n else ae
noncomputable def iR(s:Str):List V:=s.cps.toList.map λc=>.str ⟨#[c]⟩
@[reducible] noncomputable def uC:O->Option (List V)
 | .list xs=>af xs
 | .tuple xs=>af xs
 |_=>ae
noncomputable def lookE[DecidableEq K]:List (K × V)->K->Option V
 | [],_=>ae
 |(k,v)::r,x=>if k=x then af v else lookE r x
noncomputable def jY(es:List (Str × V))(k:Str)(v:V):List (Str × V):=
 if es.any (λe=>e.1=k) then es.map (λe=>if e.1=k then (e.1,v) else e) else es++ [(k,v)]
noncomputable def B3(es:List (Str × V))(k:Str):List (Str × V):=es.filter λe=>decide (e.1≠k)
noncomputable def isStr:V->Bool
 | .str _=>ao
 |_=>bc
noncomputable def d0(c:Cx)(o i:V):M V:=wa o.jU (λs=>e9 i.ml λk=>lift ((qV k s.cps.size).bind λj=>(s.cps[j]?).map λx=>bp ⟨#[x]⟩)) <| el c o>>=λob=>wa (uC ob) (λxs=>e9 i.ml λk=>lift ((qV k xs.length).bind λj=>xs[j]?)) (e9 ob.uB λes=>e9 i.jU λk=>lift (lookE es k))
noncomputable def Cz:V->Option (Option Int)
 | .none=>af ae
 | .int i=>af (af i)
 |_=>ae
noncomputable def uD(xs:List V)(l u s:V):Option (List V):=(Cz l).bind λlo=>(Cz u).bind λhi=>(Cz s).bind λst=>if st=ae then af ((xs.drop (lo.elim 0 (kI xs.length))).take (hi.elim xs.length (kI xs.length)-lo.elim 0 (kI xs.length)))
 else if lo=ae/\hi=ae/\st=af (-1) then af xs.reverse else ae
noncomputable def lJ(c:Cx)(o l u s:V):M V:=el c o>>=λob=>e9 ob.jX λxs=>lift (uD xs l u s)>>=λys=>alloc (.list ys)
noncomputable def binC(c:Cx)(op:yp)(a b:V):M V:=match op with
 | .Add=>wa a.ml (λx=>e9 b.ml λy=>aA (.int (x+y))) <| wa a.jU (λx=>e9 b.jU λy=>if x.cps.size+y.cps.size<=1000000 then aA (.str (x++y)) else fail) (el c a>>=λoa=>e9 oa.jX λxs=>el c b>>=λob=>e9 ob.jX λys=>alloc (.list (xs++ys)))
 | .Sub=>e9 a.ml λx=>e9 b.ml λy=>aA (.int (x-y))
 | .Mult=>e9 a.ml λx=>e9 b.ml λy=>if x.natAbs<=1000000000/\y.natAbs<=1000000000 then aA (.int (x*y)) else fail
 | .FloorDiv=>e9 a.ml λx=>e9 b.ml λy=>if y=0∨x.natAbs>1000000000∨y.natAbs>1000000000 then fail else aA (.int (BK x y))
 | .Mod=>e9 a.ml λx=>e9 b.ml λy=>if y=0 then fail else aA (.int (kS x y))
 |_=>fail
noncomputable def dataL(f:V->Option PyData):List V->Option (List PyData)
 | []=>af []
 |x::r=>(f x).bind λd=>(dataL f r).map (d:: ·)
noncomputable def Pf(f:V->Option PyData):O->Option PyData
 | .list xs=>(dataL f xs).map .list
 | .tuple xs=>(dataL f xs).map .tuple
 |_=>ae
noncomputable def IA:V->Option PyData
 | .none=>af .none
 | .bool b=>af (.bool b)
 | .int i=>af (.int i)
 | .str x=>af (.str x)
 |_=>ae
noncomputable def ed(os:List O)(n:Nat):V->Option PyData:=n.rec IA λ_ f v=>match v.ny with
 |some i=>(os[i]?).bind (Pf f)
 |ae=>IA v
noncomputable def EJ(os:List O)(a b:V):Option Bool:=(ed os 8 a).bind λda=>(ed os 8 b).bind λdb=>if da.canLay0=ao/\db.canLay0=ao/\da.depth<=20 then af (mQ da db) else ae
noncomputable def EK(oa ob:O):Option Unit:=oa.uB.bind λes=>ob.uB.bind λes'=>if es.length=es'.length/\(es.all λp=>p.2.jU.isSome&&decide ((lookE es' p.1).bind V.jU=p.2.jU))=ao then af () else ae
noncomputable def Dg(os:List O)(a b:V):Option Unit:=a.ny.bind λi=>b.ny.bind λj=>(os[i]?).bind λoa=>(os[j]?).bind λob=>EK oa ob
noncomputable def qx(os:List O)(a b:V):Bool:=decide (EJ os a b=af ao)||(Dg os a b).isSome
noncomputable def vD(os:List O):List V->List V->Bool
 | [],[]=>ao
 |x::xs,y::ys=>qx os x y&&vD os xs ys
 |_,_=>bc
noncomputable def z4(os:List O)(a b:V):Option Bool:=a.ny.bind λi=>b.ny.bind λj=>(os[i]?).bind λoa=>(os[j]?).bind λob=>oa.uA.bind λxs=>ob.uA.bind λys=>if vD os xs ys=ao then af ao else ae
noncomputable def EL(os:List O)(a b:V):Option Bool:=(EJ os a b).or (z4 os a b)
open Classical in
noncomputable def OY(x:V):List V->Bool
 | []=>bc
 |y::r=>if y=x then ao else OY x r
noncomputable def isV:V->V->Option Bool
 | .none,.none=>af ao
 | .bool a,.bool b=>af (a==b)
 |_,.none=>af bc
 |_,_=>ae
def Pg(c:Cx)(x y:V):M Bool:=wa y.jU (λb=>e9 x.jU λa=>aA (!(fk b a 0 b.length 1).isEmpty)) <| el c y>>=λo=>wa o.jX (λxs=>if isStr x&&xs.all isStr then aA (OY x xs) else fail)
 (wa o.SM (λxs=>e9 x.jU λk=>aA (decide (k∈xs))) (wa o.RF (λxs=>e9 x.ml λk=>aA (decide (k∈xs))) (e9 o.uB λes=>e9 x.jU λk=>aA (lookE es k).isSome)))
def cmpC(c:Cx)(op:CmpOp)(a b:V):M V:=match op with
 | .Is=>lift ((isV a b).map .bool)
 | .IsNot=>lift ((isV a b).map λr=>.bool (!r))
 | .Eq=>λ_ s=>(EL s.os a b).map λr=>(.bool r,s)
 | .NotEq=>λ_ s=>(EJ s.os a b).map λr=>(.bool (!r),s)
 | .Lt=>e9 a.ml λx=>e9 b.ml λy=>aA (.bool (x<y))
 | .In=>do return .bool (←Pg c a b)
 | .NotIn=>el c b>>=λo=>e9 o.jX λxs=>if isStr a&&xs.all isStr then aA (.bool (!OY a xs)) else fail
 |_=>fail
noncomputable def cV(c:Cx)(v:V):M Bool:=wa v.RJ aA (el c v>>=λo=>e9 o.jX λxs=>aA (!xs.isEmpty))
noncomputable def tT(K:r8)(C:bj):Bool:=j8 K (.ref C) "__getattribute__" ==af (af (.builtin "object.__getattribute__"))&&j8 K (.ref C) "__getattr__" ==af ae&&
 j8 K (.ref C) "__setattr__" ==af (af (.builtin "object.__setattr__"))&&plainOver K C&&(clsIn K C).isSome
noncomputable def sS(K:r8)(C:bj)(a:Str):Option (bj × Nat):=(refOf (j8 K (.ref C) a)).bind λp=>if r9 K (.ref p) "__get__" ==af (af (.builtin "member_descriptor.__get__"))&&yq K (.ref p)==af ao&&BL K (.ref p)==af (.type "member_descriptor") then (slotIn K p C).map λi=>(p,i) else ae
set_option backward.match.sparseCases false in
noncomputable def EM:V->Bool
 | .bi _=>bc
 |_=>ao
noncomputable def IB(c:Cx)(a:Str)(C:bj)(d:Nat):M V:=el c (.ref d)>>=λn=>e9 n.Vl λes=>
 lift (if tT c.K C&&(clsIn c.K C).any (·.hasDict)&&j8 c.K (.ref C) a==af ae then lookE es a else ae)>>=λv=>if EM v then aA v else fail
noncomputable def IC(c:Cx)(a:Str)(C:bj)(d:Nat)(vs:List (Option V)):M V:=el c (.ref d)>>=λn=>e9 n.Vl λ_=>
 lift (if tT c.K C then sS c.K C a else ae)>>=λpi=>lift ((vs[pi.2]?).join)>>=λv=>if EM v then aA v else fail
noncomputable def ID(o:V)(a:Str):M V:=if a=ah "__next__" then e9 o.ny λi=>alloc (.next i) else fail
noncomputable def LK(c:Cx)(a:Str)(C:bj)(t:Nat):M V:=if a=ah "args" /\C∈c.ib then aA (.ref t) else fail
noncomputable def eD(c:Cx)(o:V)(a:Str):M V:=el c o>>=λob=>wa ob.Iz (λx=>IB c a x.1 x.2) (wa ob.GQ (λx=>IC c a x.1 x.2.1 x.2.2) (wa ob.GP (λ_=>ID o a) (e9 ob.SN λx=>LK c a x.1 x.2)))
noncomputable def IE(c:Cx)(a:Str)(v:V)(C:bj)(d:Nat):M Unit:=el c (.ref d)>>=λn=>e9 n.Vl λes=>
 if tT c.K C&&(clsIn c.K C).any (·.hasDict)&&qM c.K C a==af ae then gU d (.ns (jY es a v)) else fail
noncomputable def IF(c:Cx)(o:V)(a:Str)(v:V)(C:bj)(d:Nat)(vs:List (Option V)):M Unit:=e9 o.ny λi=>el c (.ref d)>>=λn=>e9 n.Vl λ_=>
 lift (if tT c.K C then sS c.K C a else ae)>>=λpi=>if pi.2<vs.length/\pi.2<1000/\qM c.K C a=af (af (.ref pi.1)) then gU i (.slots C d (vs.set pi.2 (af v))) else fail
noncomputable def d8(c:Cx)(o:V)(a:Str)(v:V):M Unit:=el c o>>=λob=>wa ob.Iz (λx=>IE c a v x.1 x.2) (e9 ob.GQ λx=>IF c o a v x.1 x.2.1 x.2.2)
noncomputable def nA(c:Cx)(o i v:V):M Unit:=el c o>>=λob=>e9 ob.uB λes=>e9 o.ny λd=>e9 i.jU λk=>gU d (.dict (jY es k v))
noncomputable def xy(c:Cx)(o i:V):M Unit:=el c o>>=λob=>e9 ob.uB λes=>e9 o.ny λd=>e9 i.jU λk=>if (lookE es k).isSome then gU d (.dict (B3 es k)) else fail
noncomputable def zy:List V->Option Str
 | []=>af ⟨#[]⟩
 | .str s::r=>(zy r).map λt=>s++t
 |_=>ae
open Classical in
noncomputable def posOf(x:V):List V->Nat->Option Nat
 | [],_=>ae
 |y::r,k=>if y=x then af k else posOf x r (k+1)
noncomputable def sT(n:Str):Option String:=
 if n=ah "append" then af "list.append" else if n=ah "extend" then af "list.extend" else if n=ah "clear" then af "list.clear" else if n=ah "pop" then af "list.pop"
 else if n=ah "index" then af "list.index" else if n=ah "count" then af "list.count" else ae
noncomputable def wH(n:Str):Option String:=if n=ah "get" then af "dict.get" else if n=ah "values" then af "dict.values" else ae
noncomputable def LL(n:Str):Option String:=if n=ah "add" then af "set.add" else ae
noncomputable def Ax(n:Str):Option String:=if n=ah "lower" then af "str.lower" else if n=ah "join" then af "str.join" else if n=ah "index" then af "str.index" else ae
noncomputable def z5(c:Cx)(o:V)(as:List V):M V:=el c o>>=λob=>e9 ob.jX λxs=>e9 o.ny λi=>e9 (oW as) λv=>gU i (.list (xs++ [v]))>>=λ_=>aA .none
noncomputable def Dh(c:Cx)(o:V)(as:List V):M V:=el c o>>=λob=>e9 ob.jX λxs=>e9 o.ny λi=>e9 (oW as) λv=>wa v.jU (λs=>if xs.length+s.cps.size<=1000000 then gU i (.list (xs++iR s))>>=λ_=>aA .none else fail) <| el c v>>=λob=>e9 ob.jX λys=>gU i (.list (xs++ys))>>=λ_=>aA .none
noncomputable def GS(c:Cx)(o:V)(as:List V):M V:=el c o>>=λob=>e9 ob.jX λ_=>e9 o.ny λi=>e9 (GR as) λ_=>gU i (.list [])>>=λ_=>aA .none
noncomputable def SP(c:Cx)(o:V)(as:List V):M V:=el c o>>=λob=>e9 ob.jX λxs=>e9 o.ny λi=>e9 (GR as) λ_=>lift xs.getLast?>>=λv=>gU i (.list xs.dropLast)>>=λ_=>aA v
def GU(c:Cx)(o:V)(as:List V):M V:=el c o>>=λob=>e9 ob.jX λxs=>e9 (oW as) λx=>if isStr x&&xs.all isStr then lift ((posOf x xs 0).map λ(k:Nat)=>bD (k:Int)) else fail
open Classical in
def LM(c:Cx)(o:V)(as:List V):M V:=el c o>>=λob=>e9 ob.jX λxs=>e9 (oW as) λx=>if isStr x&&xs.all isStr then aA (.int (xs.countP λy=>y=x)) else fail
noncomputable def LN(c:Cx)(o:V)(as:List V):M V:=el c o>>=λob=>e9 (oW as) λx=>wa ob.uB (λes=>e9 x.jU λk=>aA ((lookE es k).getD .none)) (e9 ob.LH λes=>e9 x.ml λk=>aA ((lookE es k).getD .none))
noncomputable def Di(c:Cx)(o:V)(as:List V):M V:=el c o>>=λob=>e9 ob.uB λ_=>e9 o.ny λd=>e9 (GR as) λ_=>alloc (.values d)
noncomputable def LO(c:Cx)(o:V)(as:List V):M V:=el c o>>=λob=>e9 ob.SM λxs=>e9 o.ny λi=>e9 (oW as) λx=>e9 x.jU λv=>gU i (.set (if v∈xs then xs else xs++ [v]))>>=λ_=>aA fU
noncomputable def GV(o:V)(as:List V):M V:=e9 o.jU λs=>e9 (GR as) λ_=>if s.cps.size<=1000000 then aA (.str (vP s)) else fail
noncomputable def IG(c:Cx)(o:V)(as:List V):M V:=e9 o.jU λs=>e9 (oW as) λl=>if s=⟨#[]⟩ then (el c l>>=λob=>e9 ob.jX λxs=>lift (zy xs)>>=λt=>if t.cps.size<=1000000 then aA (.str t) else fail) else fail
noncomputable def Dj(o:V)(as:List V):M V:=e9 o.jU λs=>e9 (oW as) λx=>e9 x.jU λy=>lift ((fk s y 0 s.length 1).head?.map λ(i:Nat)=>bD (i:Int))
def fh(c:Cx)(id:String)(o:V)(as:List V):M V:=
 if id= "list.append" then z5 c o as
 else if id= "list.extend" then Dh c o as
 else if id= "list.clear" then GS c o as
 else if id= "list.pop" then SP c o as
 else if id= "list.index" then GU c o as
 else if id= "list.count" then LM c o as
 else if id= "dict.get" then LN c o as
 else if id= "dict.values" then Di c o as
 else if id= "set.add" then LO c o as
 else if id= "str.lower" then GV o as
 else if id= "str.join" then IG c o as
 else if id= "str.index" then Dj o as
 else fail
noncomputable def qW(a b c:Int):List V:=(mR (d9 a b c).toNat).map λ(i:Nat)=>bD (a+(i:Int)*c)
noncomputable def SQ(s:Str):Option V:=match s.cps.toList with
 | [x]=>af (.int x)
 |_=>ae
noncomputable def SR(c:Cx)(as:List V):M V:=e9 (oW as) λv=>el c v>>=λob=>e9 (uC ob) λxs=>aA (.int xs.length)
noncomputable def SS(as:List V):M V:=e9 (oW as) λv=>e9 v.jU λs=>lift (SQ s)
noncomputable def Ph(as:List V):M V:=e9 (oW as) λv=>e9 v.ml λi=>if 0<=i/\i<1114112 then aA (.str ⟨#[i.toNat]⟩) else fail
noncomputable def LP(c:Cx)(as:List V):M V:=e9 (oW as) λv=>e9 v.ny λi=>el c (.ref i)>>=λob=>e9 ob.jX λ_=>alloc (.kO i 0)
noncomputable def Ay:List V->Option (List Str)
 | []=>af []
 |v::r=>v.jU.bind λs=>(Ay r).map (s:: ·)
noncomputable def ltB(a b:Str):Bool:=PySem.Spec.ltCps a.cps.toList b.cps.toList
noncomputable def JW(a:Str):List Str->List Str
 | []=>[a]
 |b::r=>if ltB b a then b::JW a r else a::b::r
noncomputable def rM(l:List Str):List Str:=l.foldr JW []
noncomputable def Dk(c:Cx)(as:List V):M V:=e9 (oW as) λv=>el c v>>=λob=>e9 ob.uA λxs=>lift (Ay xs)>>=λss=>if ss.length<64 then (alloc (.list xs)>>=λr=>e9 r.ny λi=>gU i (.list ((rM ss).map bp))>>=λ_=>aA r) else fail
noncomputable def Pj(c:Cx)(id:String)(as:List V):M V:=
 if id= "len" then SR c as
 else if id= "ord" then SS as
 else if id= "chr" then Ph as
 else if id= "iter" then LP c as
 else if id= "sorted" then Dk c as
 else fail
@[reducible] noncomputable def LQ:List V->Option (V × V × V)
 | [a,b,c]=>af (a,b,c)
 |_=>ae
noncomputable def Pk(a b k:V):M V:=e9 a.ml λa=>e9 b.ml λb=>e9 k.ml λk=>if 0<k/\k<1000000 then alloc (.range a b k) else fail
noncomputable def Dl(as:List V):M V:=wa (oW as) (λv=>e9 v.ml λb=>alloc (.range 0 b 1)) (e9 (LQ as) λt=>Pk t.1 t.2.1 t.2.2)
noncomputable def GW(c:Cx)(as:List V):M V:=e9 (oW as) λv=>el c v>>=λob=>e9 ob.jX λxs=>alloc (.tuple xs)
noncomputable def LR(c:Cx)(as:List V):M V:=e9 (oW as) λv=>el c v>>=λob=>e9 ob.jX λxs=>aA (.bool (!xs.isEmpty))
noncomputable def RL(as:List V):M V:=e9 (GR as) λ_=>alloc (.set [])
noncomputable def Az(c:Cx)(n:String)(as:List V):M V:=
 if n= "range" then Dl as
 else if n= "tuple" then GW c as
 else if n= "bool" then LR c as
 else if n= "set" then RL as
 else fail
noncomputable def dN(c:Cx)(f:V)(as:List V):M CR:=wa f.biV (λid=>if c.hd then (do return .ret (←Pj c id as)) else fail) (wa f.RH (λn=>if c.hd then (do return .ret (←Az c n as)) else fail)
 (e9 f.LJ λa=>if c.hd&&j9 c.K (.ref a) then (λz s=>(c.call (.top a) as s.os z).map λ(r,os')=>(r,{s with os:=os'})) else fail))
noncomputable def ec:CR->M V
 | .ret v=>aA v
 | .exc _=>fail
set_option genCtorIdx false in
inductive Me where
 |fn (f:bj)
 |bi (id:String)
noncomputable def Me.ctorIdx(x:Me):Nat:=Me.casesOn x (λ_=>0) (λ_=>1)
set_option backward.match.sparseCases false in
noncomputable def idOf(o:O)(n:Str):Option String:=match o with
 | .list _=>sT n
 | .dict _=>wH n
 | .qw _=>wH n
 | .set _=>LL n
 |_=>ae
noncomputable def wI(K:r8)(C:bj)(es:List (Str × V))(name:Str)(f:bj):Bool:=tT K C&&(BL K (.ref f)==af (.type "function")&&((lookE es name).isNone&&(hasDictIn K C&&(r9 K (.ref f) "__get__" ==af (af (.builtin "function.__get__"))&&(yq K (.ref f)==af bc&&(!copiedNames.contains name&&fnIn K f))))))
noncomputable def GX(K:r8)(C:bj)(es:List (Str × V))(name:Str):Option bj:=(refOf (j8 K (.ref C) name)).bind λf=>if wI K C es name f then af f else ae
noncomputable def RM(c:Cx)(name:Str)(C:bj)(d:Nat):M Me:=el c (.ref d)>>=λn=>e9 n.Vl λes=>lift (GX c.K C es name)>>=λf=>aA (.fn f)
noncomputable def LU(o:Option String):M Me:=lift o>>=λid=>aA (.bi id)
noncomputable def ew(c:Cx)(o:V)(name:Str):M Me:=wa o.jU (λ_=>LU (Ax name)) (el c o>>=λob=>wa ob.Iz (λx=>RM c name x.1 x.2) (LU (idOf ob name)))
def eJ(c:Cx)(o:V)(m:Me)(as:List V):M CR:=match m with
 | .fn f=>dN c (.top f) (o::as)
 | .bi id=>if c.hd||id= "list.pop" then (do return Ey (←fh c id o as)) else fail
structure Src where
 items:List V
 fz:Option Nat
noncomputable def LV(t:Int × Int × Int):M Src:=if 0<t.2.2/\iM t.1 t.2.1 t.2.2=ao then aA ⟨qW t.1 t.2.1 t.2.2,ae⟩ else fail
noncomputable def SU(c:Cx)(d:Nat):M Src:=el c (.ref d)>>=λob=>e9 ob.uB λes=>aA ⟨es.map λe=>e.2,af d⟩
noncomputable def Pl(c:Cx)(ob:O):M Src:=wa ob.LI LV (e9 ob.Iy (SU c))
noncomputable def Pm(c:Cx)(i:Nat)(ob:O):M Src:=wa ob.uB (λes=>aA ⟨es.map λe=>.str e.1,af i⟩) (Pl c ob)
noncomputable def GY(c:Cx)(i:Nat):M Src:=el c (.ref i)>>=λob=>wa (uC ob) (λxs=>aA ⟨xs,af i⟩) (Pm c i ob)
noncomputable def gI(c:Cx)(v:V):M Src:=if c.hd then wa v.jU (λs=>aA ⟨iR s,ae⟩) (e9 v.ny (GY c)) else fail
noncomputable def dh(o:Option Nat)(m:M α):M α:=λz s=>m (o.toList++z) s
noncomputable def fj(turn:V->M Unit):List V->M Unit
 | []=>aA ()
 |v::r=>do turn v;fj turn r
noncomputable def fQ(turn:V->M Fl):List V->M Fl
 | []=>aA .next
 |v::r=>do
  match←turn v with
  | .next| .cont=>fQ turn r
  | .brk=>aA .next
  | .ret v=>aA (.ret v)
  | .exc _=>fail
set_option backward.match.sparseCases false in
noncomputable def AA(f:Fl):M Fl:=match f with
 | .exc _=>fail
 |f=>aA f
noncomputable def g9(test:M Bool)(body orelse:M Fl):Nat->M Fl
 |0=>fail
 |n+1=>do
  if←test then
   match←body with
   | .next| .cont=>g9 test body orelse n
   | .brk=>aA .next
   | .ret v=>aA (.ret v)
   | .exc _=>fail
  else do AA (←orelse)
set_option backward.match.sparseCases false in
noncomputable def zz:au->Option Str
 | .Name x _=>af x
 |_=>ae
set_option backward.match.sparseCases false in
noncomputable def VD:au->Option (List au)
 | .Tuple ts _ _=>af ts
 |_=>ae
set_option backward.match.sparseCases false in
noncomputable def SV:au->Option (au × au)
 | .Subscript o i _=>af (o,i)
 |_=>ae
set_option backward.match.sparseCases false in
noncomputable def II:au->Option (au × Str × Pos)
 | .Attribute o a p=>af (o,a,p)
 |_=>ae
set_option backward.match.sparseCases false in
noncomputable def Dm:au->Option (au × List au × Pos)
 | .Call f as [] p=>af (f,as,p)
 |_=>ae
noncomputable def rN(sc:Scope):List au->List V->M Unit
 |t::ts,v::vs=>e9 (zz t) λx=>setC sc x v>>=λ_=>rN sc ts vs
 | [],[]=>aA ()
 |_,_=>fail
noncomputable def EN(c:Cx)(sc:Scope)(ts:List au)(v:V):M Unit:=el c v>>=λob=>e9 ob.uA λxs=>if xs.length=ts.length then rN sc ts xs else fail
noncomputable def IJ(c:Cx)(sc:Scope)(t:au)(v:V):M Unit:=wa (zz t) (λx=>setC sc x v) (e9 (VD t) λts=>EN c sc ts v)
noncomputable def baseOk:au->Bool
 | .Call (.Name _ _) [] [] _=>bc
 |_=>ao
noncomputable def notStar(e:au):Bool:= !(ij e.ctorIdx 22)
noncomputable def Me.isFn:Me->Bool
 | .fn _=>ao
 | .bi _=>bc
noncomputable def notAttr(e:au):Bool:= !(ij e.ctorIdx 20)
noncomputable def AB(e:au):Bool:= !(ij e.ctorIdx 7)
noncomputable def wJ(scope sc:Scope)(gens:List iB):Bool:=decide (scope.kind= .function)&&gens.all (λg=>decide (g.is_async=0)&&AB g.iter)&&
 scope.names.all λp=>decide (p.2≠ .cell)&&decide (scope.names.lookup p.1=af p.2)&&(decide (p.2≠ .free)||decide (sc.names.lookup p.1=af .cell)||decide (sc.names.lookup p.1=af .free))
set_option backward.match.sparseCases false in
noncomputable def GZ(v:V):M V:=e9 v.ml λi=>aA (.int (-i))
noncomputable def zA(c:Cx)(v:V):M (List V):=el c v>>=λob=>e9 (uC ob) aA
noncomputable def i4(c:Cx)(acc:Nat)(v:V):M Unit:=el c (.ref acc)>>=λob=>e9 ob.jX λxs=>gU acc (.list (xs++ [v]))
set_option backward.match.sparseCases false in
mutual
noncomputable def cU(c:Cx):au->Scope->eB->M V
 | .Constant k _ _,_,_=>SO k
 | .Name x _,sc,up=>zv c sc up x
 | .NamedExpr (.Name x _) e _,sc,up=>do let v←cU c e sc up;setC sc x v;aA v
 | .BoolOp .Or [a,b] _,sc,up=>do
  let x←cU c a sc up
  if←cV c x then aA x else cU c b sc up
 | .BinOp l op r _,sc,up=>do
  let a←cU c l sc up
  let b←cU c r sc up
  binC c op a b
 | .UnaryOp .USub e _,sc,up=>do GZ (←cU c e sc up)
 | .IfExp t b o _,sc,up=>do if←tU c t sc up (cU c t sc up) then cU c b sc up else cU c o sc up
 | .Dict [] [] _,_,_=>alloc (.dict [])
 | .List es _,sc,up=>do let vs←AD c es sc up;alloc (.list vs)
 | .Tuple es _ _,sc,up=>do let vs←AD c es sc up;alloc (.tuple vs)
 | .Compare l [op] [r] _,sc,up=>if behindInMarks op r then fail else do
  let a←cU c l sc up
  let b←cU c r sc up
  cmpC c op a b
 | .Call (.Attribute o name ap) args [] pos,sc,up=>if !baseOk o|| !(ap.endLine==pos.line)|| !decide (args.length<30) then fail else do
  let ov←cU c o sc up
  let m←ew c ov name
  if args.all notStar||m.isFn then aA () else fail
  let as←uE c args sc up
  ec (←eJ c ov m as)
 | .Call f args [] _,sc,up=>do
  let fv←cU c f sc up
  let as←uE c args sc up
  ec (←dN c fv as)
 | .JoinedStr [.Constant (.str s) _ _] _,_,_=>aA (.str s)
 | .Attribute o a _,sc,up=>if !baseOk o then fail else do let ov←cU c o sc up;eD c ov a
 | .Subscript o (.Slice l u s _) _,sc,up=>do
  let ov←cU c o sc up
  let lv←G0 c l sc up
  let uv←G0 c u sc up
  let sv←G0 c s sc up
  lJ c ov lv uv sv
 | .Subscript o i _,sc,up=>do
  let ov←cU c o sc up
  let iv←cU c i sc up
  d0 c ov iv
 | .ListComp elt gens scope _,sc,up=>if !wJ scope sc gens then fail else do
  let it←AE c gens sc up
  let src←gI c it
  let acc←alloc (.list [])
  e9 acc.ny λi z s=>(EO c gens scope (RK scope sc s.fr up) (cU c elt scope (RK scope sc s.fr up)) i src z ⟨[],s.os⟩).map λr=>(acc,⟨s.fr,r.2.os⟩)
 |_,_,_=>fail
noncomputable def G0(c:Cx):Option au->Scope->eB->M V
 |ae,_,_=>aA .none
 |some e,sc,up=>cU c e sc up
noncomputable def AD(c:Cx):List au->Scope->eB->M (List V)
 | [],_,_=>aA []
 |e::r,sc,up=>do let v←cU c e sc up;let vs←AD c r sc up;aA (v::vs)
noncomputable def uE(c:Cx):List au->Scope->eB->M (List V)
 | [],_,_=>aA []
 | [.Starred e _],sc,up=>do zA c (←cU c e sc up)
 |e::r,sc,up=>do let v←cU c e sc up;let vs←uE c r sc up;aA (v::vs)
noncomputable def tU(c:Cx):au->Scope->eB->M V->M Bool
 | .BoolOp .And [a,b] _,sc,up,_=>do if←tU c a sc up (cU c a sc up) then tU c b sc up (cU c b sc up) else aA bc
 | .BoolOp .Or [a,b] _,sc,up,_=>do if←tU c a sc up (cU c a sc up) then aA ao else tU c b sc up (cU c b sc up)
 | .IfExp ..,_,_,_=>fail
 | .UnaryOp ..,_,_,_=>fail
 | .BoolOp ..,_,_,_=>fail
 | .Compare _ [_] [_] _,_,_,whole=>do cV c (←whole)
 | .Compare ..,_,_,_=>fail
 |_,_,_,whole=>do cV c (←whole)
noncomputable def Dp(c:Cx):List au->Scope->eB->M Bool
 | [],_,_=>aA ao
 |e::r,sc,up=>do if←tU c e sc up (cU c e sc up) then Dp c r sc up else aA bc
noncomputable def AE(c:Cx):List iB->Scope->eB->M V
 |⟨_,iter,_,_⟩::_,sc,up=>cU c iter sc up
 | [],_,_=>fail
noncomputable def EO(c:Cx):List iB->Scope->eB->M V->Nat->Src->M Unit
 | [],_,_,_,_,_=>fail
 |⟨t,_,ifs,_⟩::rest,sc,up,elt,acc,src=>
  dh src.fz (fj (λv=>do
   IJ c sc t v
   if←Dp c ifs sc up then
    (if rest.isEmpty then (do i4 c acc (←elt))
    else (do
     let it'←AE c rest sc up
     let src'←gI c it'
     EO c rest sc up elt acc src'))
   else aA ()) src.items)
end
noncomputable def EP(op:yp)(a b:V):M V:=e9 a.ml λx=>e9 b.ml λy=>match op with
 | .Add=>aA (.int (x+y))
 | .Sub=>aA (.int (x-y))
 |_=>fail
def G3(c:Cx)(sc:Scope)(up:eB)(v:V)(t:au):M Unit:=wa (zz t) (λx=>setC sc x v) (wa (II t) (λoa=>cU c oa.1 sc up>>=λov=>d8 c ov oa.2.1 v)
 (e9 (SV t) λoi=>cU c oi.1 sc up>>=λov=>cU c oi.2 sc up>>=λiv=>nA c ov iv v))
noncomputable def z6(c:Cx)(sc:Scope)(up:eB)(v:V):List au->M Unit
 | []=>aA ()
 |t::r=>do G3 c sc up v t;z6 c sc up v r
set_option backward.match.sparseCases false in
noncomputable def VE:fV->Option (List au × au)
 | .Assign ts v _=>af (ts,v)
 |_=>ae
set_option backward.match.sparseCases false in
noncomputable def SW:fV->Option au
 | .Return (af e) _=>af e
 |_=>ae
noncomputable def IK(a:fV):Option (Str × au):=(VE a).bind λq=>((oW q.1).bind zz).bind λx=>(Dm q.2).bind λg=>if notAttr g.1&&g.2.1.isEmpty then af (x,g.1) else ae
noncomputable def IL(a:fV):Option (au × Str):=((SW a).bind Dm).bind λg=>(II g.1).bind λo=>if baseOk o.1&&o.2.2.endLine==g.2.2.line&&g.2.1.isEmpty then af (o.1,o.2.1) else ae
noncomputable def ER(e:au):Option (Str × List au):=(Dm e).bind λg=>if g.2.1.all notStar then (zz g.1).map λx=>(x,g.2.1) else ae
set_option backward.match.sparseCases false in
noncomputable def RN:ExceptHandler->Option (Str × Option Str × List fV)
 | .ExceptHandler (af t) n (a::b) _=>(zz t).map λx=>(x,n,a::b)
 |_=>ae
set_option backward.match.sparseCases false in
noncomputable def uF(c:Cx)(set:V->M Unit)(rest hb:M Fl)(fv:V):M Fl:=el c fv>>=λo=>e9 o.RG λit=>el c (.ref it)>>=λo=>e9 o.GP λlk=>el c (.ref lk.1)>>=λo=>e9 o.jX λxs=>
 wa xs[lk.2]? (λv=>gU it (.kO lk.1 (lk.2+1))>>=λ_=>set v>>=λ_=>rest>>=AA) (gU it .dead>>=λ_=>hb>>=AA)
noncomputable def G4:V->Bool
 | .type t=>decide (t= "StopIteration")
 |_=>bc
set_option backward.match.sparseCases false in
noncomputable def Pn(c:Cx)(set:V->M Unit)(cv:M V)(en:M V)(i:Nat):M Fl:=el c (.ref i)>>=λo=>e9 o.SN λCt=>cv>>=λv=>e9 v.LJ λC'=>if Ct.1=C'/\Ct.1∈c.ib then (set (.ref i)>>=λ_=>en>>=λv=>λ_ s=>af (.ret v,{s with fr:=[]})) else fail
noncomputable def z7(c:Cx)(set:V->M Unit)(cv:M V)(en:M V)(r:CR):M Fl:=match r with
 | .ret v=>aA (.ret v)
 | .exc i=>Pn c set cv en i
noncomputable def G5(C:bj)(as:List V):M Fl:=alloc (.tuple as)>>=λt=>e9 t.ny λti=>alloc (.exc C ti)>>=λe=>e9 e.ny λe=>aA (.exc e)
noncomputable def seqM(a b:M Fl):M Fl:=do
 match←a with
 | .next=>b
 |f=>aA f
set_option backward.match.sparseCases false in
mutual
noncomputable def CA(c:Cx)(sc:Scope)(up:eB):fV->M Fl
 | .Expr e _=>if ij e.ctorIdx 8 then fail else do let _←cU c e sc up;aA .next
 | .Break _=>aA .brk
 | .Continue _=>aA .cont
 | .Return e _=>do return .ret (←G0 c e sc up)
 | .Assign ts e _=>do let v←cU c e sc up;z6 c sc up v ts;aA .next
 | .AugAssign t op e _=>do
  let oa←lift (II t)
  let ov←cU c oa.1 sc up
  let old←eD c ov oa.2.1
  let v←cU c e sc up
  let new←EP op old v
  d8 c ov oa.2.1 new
  pure .next
 | .Delete ts _=>do
  let oi←lift ((oW ts).bind SV)
  let ov←cU c oi.1 sc up
  let iv←cU c oi.2 sc up
  xy c ov iv
  pure .next
 | .If t b o _=>do if←tU c t sc up (cU c t sc up) then jG c sc up b else jG c sc up o
 | .While t b o _=>g9 (tU c t sc up (cU c t sc up)) (jG c sc up b) (jG c sc up o) c.fuel
 | .For t e b o _=>if !AB e|| !o.isEmpty then fail else do
  let x←lift (zz t)
  let v←cU c e sc up
  let src←gI c v
  dh src.fz (fQ (λv=>do setC sc x v;jG c sc up b) src.items)
 | .Try b hs o fb _=>if !c.hd|| !o.isEmpty|| !fb.isEmpty then fail else do
  let h←lift ((oW hs).bind RN)
  match h.2.1 with
  |ae=>do
   let xf←lift (b.head?.bind IK)
   let fv←cU c xf.2 sc up
   uF c (setC sc xf.1) (VF c sc up b) (do
    if G4 (←zv c sc up h.1) then VG {c with hd:=bc} sc up hs else fail) fv
  |some n=>if !decide (sc.names.lookup n=af .local) then fail else do
   let om←lift ((oW b).bind IL)
   let e←lift ((oW h.2.2).bind SW)
   let ov←cU c om.1 sc up
   let m←ew c ov om.2
   z7 c (setC sc n) (zv c sc up h.1) (cU {c with hd:=bc} e sc up) (←eJ c ov m [])
 | .Raise e cs _=>if !c.hd||cs.isSome then fail else do
  let na←lift (e.bind ER)
  let cv←zv c sc up na.1
  e9 cv.LJ λC=>if C∉c.ib then fail else do G5 C (←uE c na.2 sc up)
 |_=>fail
noncomputable def VF(c:Cx)(sc:Scope)(up:eB):List fV->M Fl
 | []=>fail
 |_::r=>jG c sc up r
noncomputable def VG(c:Cx)(sc:Scope)(up:eB):List ExceptHandler->M Fl
 | []=>fail
 |h::_=>SX c sc up h
noncomputable def SX(c:Cx)(sc:Scope)(up:eB):ExceptHandler->M Fl
 | .ExceptHandler _ _ b _=>jG c sc up b
noncomputable def jG(c:Cx)(sc:Scope)(up:eB):List fV->M Fl
 | []=>aA .next
 |s::r=>seqM (CA c sc up s) (jG c sc up r)
end
noncomputable def AF(sl:List (Str × α)):List (Str × α)->List (Str × α)
 | []=>sl
 |(n,d)::r=>AF (if (sl.lookup n).isNone then sl++ [(n,d)] else sl) r
noncomputable def sU(ps:List Str)(pO:List α):List α:=pO.drop (pO.length-ps.length)
noncomputable def uG(ps:List Str)(pO vals:List α):List (Str × α):=AF (ps.zip vals) ((ps.drop (ps.length-(sU ps pO).length)).zip (sU ps pO))
noncomputable def xA(ps:List Str)(pO vals:List α):List (Str × α):=ps.filterMap λn=>((uG ps pO vals).lookup n).map λv=>(n,v)
noncomputable def yK(ps:List Str)(pO vals:List α)(more:Bool):Bool:=(decide (vals.length<=ps.length)||more)&&(ps.take (ps.length-(sU ps pO).length)).all λn=>((ps.zip vals).lookup n).isSome
set_option backward.match.sparseCases false in
@[reducible] noncomputable def RO:Option Obj->Option (List ay)
 |some ⟨_,_,.seq xs _,_⟩=>af xs.toList
 |_=>ae
noncomputable def IM(K:r8):ay->Option (List V)
 | .none=>af []
 | .ref a=>(RO (K.lookup a)).bind λxs=>xs.mapM ki
 |_=>ae
noncomputable def putAll:eB->List (Str × V)->eB
 |fr,[]=>fr
 |fr,(x,v)::r=>putAll (putF fr x v) r
set_option backward.match.sparseCases false in
@[reducible] noncomputable def LW:Option Obj->Option (Array ay)
 |some ⟨_,_,.fields xs,_⟩=>af xs
 |_=>ae
set_option backward.match.sparseCases false in
@[reducible] noncomputable def strAt:Option ay->Option Str
 |some (.str q _)=>af q
 |_=>ae
noncomputable def codeIn(K:r8)(fd:kR):Bool:=decide (((refOf (af (af fd.code))).bind λc=>(LW (K.lookup c)).bind λvs=>strAt vs[1]?)=af fd.qualname)
noncomputable def SY(K:r8)(fd:kR):Bool:=fd.params.posonlyargs.isEmpty&&fd.params.kwonlyargs.isEmpty&&fd.params.kwarg.isNone&&fd.closure.isEmpty&&decide (fd.globals=gm)&&decide (fd.builtins=builtinsNs)&&
 decide (fd.scope.kind= .function)&& !fd.scope.isGenerator&& !fd.scope.isCoroutine&&codeIn K fd&&decide ((gC 0 fd.scope.names []).map (·.1)).Nodup&&fd.scope.names.all λp=>decide (p.2≠ .free)
noncomputable def z8(sc:Scope)(bs:List (Str × V)):Bool:=bs.all λp=>decide (sc.names.lookup p.1=af .local)||decide (sc.names.lookup p.1=af .cell)
noncomputable def bindC(fd:kR)(pO:List V)(as:List V):M eB:=if yK (fd.params.args.map (·.arg)) pO as fd.params.vararg.isSome then (match fd.params.vararg with
  |ae=>if z8 fd.scope (xA (fd.params.args.map (·.arg)) pO as) then aA (putAll [] (xA (fd.params.args.map (·.arg)) pO as)) else fail
  |some a=>do
   let t←alloc (.tuple (as.drop fd.params.args.length))
   if z8 fd.scope (xA (fd.params.args.map (·.arg)) pO as++ [(a.arg,t)]) then aA (putAll [] (xA (fd.params.args.map (·.arg)) pO as++ [(a.arg,t)])) else fail) else fail
set_option backward.match.sparseCases false in
set_option backward.match.sparseCases false in
noncomputable def VH:Fl->Option CR
 | .ret v=>af (.ret v)
 | .next=>af (.ret .none)
 | .exc i=>af (.exc i)
 |_=>ae
noncomputable def nB(o:Option (Fl × eP)):Option (CR × List O):=o.bind λr=>(VH r.1).map λq=>(q,r.2.os)
set_option backward.match.sparseCases false in
noncomputable def bodyOf:FuncBody->Option (List fV)
 | .stmts b=>af b
 |_=>ae
def LX(c:Cx)(fd:kR)(as:List V)(os:List O)(fz:List Nat):Option (CR × List O):=
 if !SY c.K fd then ae else (IM c.K fd.defaults).bind λpO=>(bodyOf fd.body).bind λb=>(bindC fd pO as fz ⟨[],os⟩).bind λq=>nB (jG c fd.scope [] b fz ⟨q.1,q.2.os⟩)
noncomputable def LY(cd:oU)(C:bj)(d:Nat):O:=if cd.hasDict then .inst C d else .slots C d (gW 5 ae)
set_option backward.match.sparseCases false in
noncomputable def z9:CR->Bool
 | .ret .none=>ao
 |_=>bc
def IP(c:Cx)(C:bj)(cd:oU)(as:List V)(os:List O)(fz:List Nat):Option (CR × List O):=
 if !makesIn c.K C then ae else (refOf (j8 c.K (.ref C) "__init__")).bind λf=>if !PySem.W.isFn c.K (.ref f) then ae else (fdOf (c.K.lookup f)).bind λfd=>
  (LX c fd (.ref (os.length+1)::as) (os++ [.ns [],LY cd C os.length]) fz).bind λr=>if z9 r.1 then af (.ret (.ref (os.length+1)),r.2) else ae
def callC(K:r8)(aj:List (bj × O))(ib:List bj)(fuel:Nat)(n:Nat):V->List V->List O->List Nat->Option (CR × List O):=n.rec (λ_ _ _ _=>ae) λ_ call v as os fz=>v.LJ.bind λa=>
  match fdOf (K.lookup a) with
  |some fd=>LX ⟨K,aj,call,fuel,ao,ib⟩ fd as os fz
  |ae=>(Pe (K.lookup a)).bind λcd=>IP ⟨K,aj,call,fuel,ao,ib⟩ a cd as os fz
variable{c:Cx}{s₁:eP}{o v:V}{body:eB->Nat->Src->M Unit}{es:List (Str × V)}{os σ σ' os':List O}{xs vs as:List V}{fr ej:eB}{turn:eB->Nat->V->M Unit}{aj:List (bj × O)}{ups:eB->eB}
theorem kX{r:α}(h:ae=af r):C:=nomatch h
theorem sj{a b:α}(h:af a=af b):a=b:=t5 h
section
variable{s:eP}{r:α × eP}
theorem ef{o:Option β}{f:β->M α}{k:M α}(e:wa o f k z s=af r)(h:∀b,o=af b->f b z s=af r->C)(h':o=ae->k z s=af r->C):C:=by
 induction o using aw with
 |none=>exact h' rfl e
 |some b=>exact h b rfl e
theorem bZ{o:Option β}{f:β->M α}(e:e9 o f z s=af r)(h:∀b,o=af b->f b z s=af r->C):C:=ef e h λ_ h=>kX h
theorem EA[Decidable p]{a b:M α}(e:(if p then a else b) z s=af r)(h:p->a z s=af r->C)(h':b z s=af r->C):C:=by
 by_cases q:p
 ·rw [if_pos q] at e;exact h q e
 ·rw [if_neg q] at e;exact h' e
theorem xB[Decidable p]{a:M α}(e:(if p then a else fail) z s=af r)(h:p->a z s=af r->C):C:=by
 by_cases q:p
 ·rw [if_pos q] at e;exact h q e
 ·rw [if_neg q] at e;exact kX e
theorem Ta[Decidable p]{a:M α}(e:(if p then fail else a) z s=af r)(h:¬p->a z s=af r->C):C:=by
 by_cases q:p
 ·rw [if_pos q] at e;exact kX e
 ·rw [if_neg q] at e;exact h q e
theorem Tb[Decidable p]{a:Option β}{b:β}(e:(if p then ae else a)=af b)(h:¬p->a=af b->C):C:=by
 by_cases q:p
 ·rw [if_pos q] at e;exact kX e
 ·rw [if_neg q] at e;exact h q e
theorem Lu[Decidable p]{a:Option β}{b:β}(e:(if p then a else ae)=af b)(h:p->a=af b->C):C:=by
 by_cases q:p
 ·rw [if_pos q] at e;exact h q e
 ·rw [if_neg q] at e;exact kX e
end
section
variable{o:O}
theorem wK{x:List V}(h:o.jX=af x):o= .list x:=by
 induction o using O.casesOn<;>first|exact congrArg _ (sj h)|exact kX h
theorem Aa{x:List V}(h:o.uA=af x):o= .tuple x:=by
 induction o using O.casesOn<;>first|exact congrArg _ (sj h)|exact kX h
theorem qX{x:List (Str × V)}(h:o.uB=af x):o= .dict x:=by
 induction o using O.casesOn<;>first|exact congrArg _ (sj h)|exact kX h
theorem Po{x:List (Int × V)}(h:o.LH=af x):o= .qw x:=by
 induction o using O.casesOn<;>first|exact congrArg _ (sj h)|exact kX h
theorem RP{x:List Str}(h:o.SM=af x):o= .set x:=by
 induction o using O.casesOn<;>first|exact congrArg _ (sj h)|exact kX h
theorem Tc{x:List Int}(h:o.RF=af x):o= .B1 x:=by
 induction o using O.casesOn<;>first|exact congrArg _ (sj h)|exact kX h
theorem LZ{x:List (Str × V)}(h:o.Vl=af x):o= .ns x:=by
 induction o using O.casesOn<;>first|exact congrArg _ (sj h)|exact kX h
theorem Td{x:Nat}(h:o.RG=af x):o= .next x:=by
 induction o using O.casesOn<;>first|exact congrArg _ (sj h)|exact kX h
theorem L6{x:Nat}(h:o.Iy=af x):o= .values x:=by
 induction o using O.casesOn<;>first|exact congrArg _ (sj h)|exact kX h
theorem Dq{x:bj × Nat}(h:o.Iz=af x):o= .inst x.1 x.2:=by
 induction o using O.casesOn<;>first|exact sj h▸rfl|exact kX h
theorem RQ{x:bj × Nat}(h:o.SN=af x):o= .exc x.1 x.2:=by
 induction o using O.casesOn<;>first|exact sj h▸rfl|exact kX h
theorem IQ{x:Nat × Nat}(h:o.GP=af x):o= .kO x.1 x.2:=by
 induction o using O.casesOn<;>first|exact sj h▸rfl|exact kX h
theorem Pp{x:Int × Int × Int}(h:o.LI=af x):o= .range x.1 x.2.1 x.2.2:=by
 induction o using O.casesOn<;>first|exact sj h▸rfl|exact kX h
theorem IS{x:bj × Nat × List (Option V)}(h:o.GQ=af x):o= .slots x.1 x.2.1 x.2.2:=by
 induction o using O.casesOn<;>first|exact sj h▸rfl|exact kX h
theorem Ab(h:uC o=af xs):o= .list xs∨o= .tuple xs:=by
 induction o using O.casesOn<;>first|exact .inl (congrArg _ (sj h))|exact .inr (congrArg _ (sj h))|exact kX h
theorem CB{x:Int}(h:v.ml=af x):v= .int x:=by
 induction v using V.casesOn<;>first|exact congrArg _ (sj h)|exact kX h
theorem nD(h:v.jU=af x):v= .str x:=by
 induction v using V.casesOn<;>first|exact congrArg _ (sj h)|exact kX h
theorem qy{x:Nat}(h:v.ny=af x):v= .ref x:=by
 induction v using V.casesOn<;>first|exact congrArg _ (sj h)|exact kX h
theorem IT{x:bj}(h:v.LJ=af x):v= .top x:=by
 induction v using V.casesOn<;>first|exact congrArg _ (sj h)|exact kX h
theorem L7{x:String}(h:v.RH=af x):v= .type x:=by
 induction v using V.casesOn<;>first|exact congrArg _ (sj h)|exact kX h
theorem VI{x:String}(h:v.biV=af x):v= .bi x:=by
 induction v using V.casesOn<;>first|exact congrArg _ (sj h)|exact kX h
theorem Te{b:Bool}(h:v.RJ=af b):(v= .none/\b=bc)∨v= .bool b:=by
 induction v using V.casesOn<;>first|exact .inr (congrArg _ (sj h))|exact .inl ⟨rfl,(sj h).symm⟩|exact kX h
end
section
variable{l:List α}
theorem VJ(h:GR l=af u):l= []:=by
 induction l using aC<;>first|rfl|exact kX h
theorem AG{x:α}(h:oW l=af x):l= [x]:=by
 induction l using aC with
 |nil=>exact kX h
 |cons y r=>induction r using aC<;>first|exact congrArg (· :: []) (sj h)|exact kX h
end
theorem IU{x:Option (Option ay)}{p:bj}(h:refOf x=af p):x=af (af (.ref p)):=by
 induction x using aw with
 |none=>exact kX h
 |some y=>
  induction y using aw with
  |none=>exact kX h
  |some v=>induction v using iN<;>first|exact sj h▸rfl|exact kX h
theorem VK{x:Option Obj}{fd:kR}(h:fdOf x=af fd):∃t d sl,x=af ⟨t,d,.func fd,sl⟩:=by
 induction x using aw with
 |none=>exact kX h
 |some y=>
  induction y using lU with
  |mk t d v sl=>induction v using lB<;>first|exact sj h▸⟨_,_,_,rfl⟩|exact kX h
theorem YO{x:Option Obj}{cd:oU}(h:Pe x=af cd):∃t d sl,x=af ⟨t,d,.cls cd,sl⟩:=by
 induction x using aw with
 |none=>exact kX h
 |some y=>
  induction y using lU with
  |mk t d v sl=>induction v using lB<;>first|exact sj h▸⟨_,_,_,rfl⟩|exact kX h
theorem Tf{x:FuncBody}{b:List fV}(h:bodyOf x=af b):x= .stmts b:=by
 induction x using PySem.FuncBody.casesOn<;>first|exact congrArg _ (sj h)|exact kX h
theorem VL{x:Option Obj}{l:List ay}(h:RO x=af l):∃t d xs n sl,x=af ⟨t,d,.seq xs n,sl⟩/\l=xs.toList:=by
 induction x using aw with
 |none=>exact kX h
 |some y=>
  induction y using lU with
  |mk t d v sl=>induction v using lB<;>first|exact ⟨_,_,_,_,_,rfl,(sj h).symm⟩|exact kX h
theorem Tg{x:Option Obj}{l:Array ay}(h:LW x=af l):∃t d sl,x=af ⟨t,d,.fields l,sl⟩:=by
 induction x using aw with
 |none=>exact kX h
 |some y=>
  induction y using lU with
  |mk t d v sl=>induction v using lB<;>first|exact sj h▸⟨_,_,_,rfl⟩|exact kX h
theorem VM{x:Option ay}{q:Str}(h:strAt x=af q):∃t,x=af (.str q t):=by
 induction x using aw with
 |none=>exact kX h
 |some v=>induction v using iN<;>first|exact sj h▸⟨_,rfl⟩|exact kX h
theorem Pq{l:List V}{x:V × V × V}(h:LQ l=af x):l= [x.1,x.2.1,x.2.2]:=by
 induction l using aC with
 |nil=>exact kX h
 |cons y r=>
  induction r using aC with
  |nil=>exact kX h
  |cons y r=>
   induction r using aC with
   |nil=>exact kX h
   |cons y r=>induction r using aC<;>first|exact sj h▸rfl|exact kX h
section
variable{t:au}
theorem wL(h:zz t=af x):∃p,t= .Name x p:=by
 induction t using bf<;>first|exact sj h▸⟨_,rfl⟩|exact kX h
theorem VN{x:List au}(h:VD t=af x):∃k p,t= .Tuple x k p:=by
 induction t using bf<;>first|exact sj h▸⟨_,_,rfl⟩|exact kX h
theorem RR{x:au × au}(h:SV t=af x):∃p,t= .Subscript x.1 x.2 p:=by
 induction t using bf<;>first|exact sj h▸⟨_,rfl⟩|exact kX h
theorem G7{x:au × Str × Pos}(h:II t=af x):t= .Attribute x.1 x.2.1 x.2.2:=by
 induction t using bf<;>first|exact sj h▸rfl|exact kX h
theorem G8{x:au × List au × Pos}(h:Dm t=af x):t= .Call x.1 x.2.1 [] x.2.2:=by
 induction t using bf with
 |Call f as ks p=>induction ks using aC<;>first|exact sj h▸rfl|exact kX h
 |_=>exact kX h
end
theorem VO{t:fV}{x:List au × au}(h:VE t=af x):∃p,t= .Assign x.1 x.2 p:=by
 induction t using pT<;>first|exact sj h▸⟨_,rfl⟩|exact kX h
theorem RT{t:fV}{x:au}(h:SW t=af x):∃p,t= .Return (af x) p:=by
 induction t using pT with
 |Return v p=>induction v using aw<;>first|exact sj h▸⟨_,rfl⟩|exact kX h
 |_=>exact kX h
theorem Th{t:ExceptHandler}{x:Str × Option Str × List fV}(h:RN t=af x):∃tp a b p,t= .ExceptHandler (af (.Name x.1 tp)) x.2.1 (a::b) p/\x.2.2=a::b:=by
 induction t using PySem.ExceptHandler.casesOn with
 |ExceptHandler ty n b p=>
  induction ty using aw with
  |none=>exact kX h
  |some ty=>
   induction b using aC with
   |nil=>exact kX h
   |cons a b=>exact ei (bY.mp h) λy h=>ei (wL h.1) λtp q=>h.2▸⟨tp,a,b,p,q▸rfl,rfl⟩
theorem JX{a:fV}{x:Str × au}(h:IK a=af x):notAttr x.2=ao/\∃px pc q,a= .Assign [.Name x.1 px] (.Call x.2 [] [] pc) q:=by
 refine ei (di.mp h) λts h=>?_;refine ei (di.mp h.2) λy h'=>?_;refine ei (di.mp h'.1) λt h1=>?_;refine ei (di.mp h'.2) λg h2=>Lu h2.2 λh3 h4=>?_;rw [aS,sb] at h3;refine ei (VO h.1) λq e1=>ei (wL h1.2) λpx e2=>?_;have e3:=G8 h2.1;rw [h3.2] at e3;have e4:=sj h4;subst e4;exact ⟨h3.1,px,g.2.2,q,by rw [e1,AG h1.1,e2,e3]⟩
theorem JY{a:fV}{x:au × Str}(h:IL a=af x):∃ap pc q,a= .Return (af (.Call (.Attribute x.1 x.2 ap) [] [] pc)) q/\baseOk x.1=ao/\(ap.endLine==pc.line)=ao:=by
 refine ei (di.mp h) λg h=>?_;refine ei (di.mp h.1) λy h1=>?_;refine ei (di.mp h.2) λo h2=>Lu h2.2 λh3 h4=>?_;rw [aS,aS,sb] at h3;have e4:=sj h4;subst e4;have e3:=G8 h1.2;rw [h3.2,G7 h2.1] at e3;exact ei (RT h1.1) λq e1=>⟨o.2.2,g.2.2,q,by rw [e1,e3],h3.1.1,h3.1.2⟩
def cA(ρ:List bj):V->ay->Prop
 | .none,v=>v= .none
 | .bool b,v=>v= .bool b
 | .int i,v=>∃t,v= .int i t
 | .str s,v=>∃t,v= .str s t
 | .ref i,v=>∃a,ρ[i]? =af a/\v= .ref a
 | .top a,v=>v= .ref a
 | .type n,v=>v= .type n
 | .bi id,v=>v= .builtin id
noncomputable def bM(ρ:List bj):List V->List ay->Prop
 | [],[]=>True
 |x::xs,y::ys=>cA ρ x y/\bM ρ xs ys
 |_,_=>False
def n8(ρ:List bj):Option V->Option ay->Prop
 |none,v=>v=ae
 |some x,v=>∃y,v=af y/\cA ρ x y
noncomputable def cW(ρ:List bj):List (K × V)->List (K × ay)->Prop
 | [],[]=>True
 |x::xs,y::ys=>(x.1=y.1/\cA ρ x.2 y.2)/\cW ρ xs ys
 |_,_=>False
def CC[DecidableEq K](knd:KeyKind pr w K)(ρ:List bj)(es:List (K × V))(o:Obj):Prop:=
 ∃ds n kvs,o.ExactDict/\o.data= .dict ds n/\KeysOf knd ds/\Pairs knd ds.toList kvs/\(kvs.map (·.1)).Nodup/\cW ρ es kvs
def VP[DecidableEq K](knd:KeyKind pr w K)(xs:List K)(o:Obj):Prop:=
 ∃es n t,o.ExactSet/\o.data= .set es n t/\ElemsOf knd es.toList/\(∀k,decide (k∈xs)=ao↔∃e∈es.toList,knd.is k e.2=ao)/\es.size<scanBound/\t.fits es.size=ao/\es.size=xs.length
def ou(pr:qL)(w:jw)(ρ:List bj):O->Obj->Prop
 | .list xs,o=>∃ys n,o=⟨.type "list",ae,.seq ys n,#[]⟩/\bM ρ xs ys.toList/\ys.size<=1000000
 | .tuple xs,o=>∃ys n,o=⟨.type "tuple",ae,.seq ys n,#[]⟩/\bM ρ xs ys.toList/\ys.size<=1000000
 | .dict es,o=>CC (strKind pr w) ρ es o/\es.length<=1000000
 | .qw es,o=>CC (iO pr w) ρ es o
 | .set xs,o=>VP (strKind pr w) xs o
 | .B1 xs,o=>VP (iO pr w) xs o
 | .inst C d,o=>∃a,ρ[d]? =af a/\o=⟨.ref C,af a,.plain,#[]⟩
 | .ns es,o=>∃ds n,o.data= .dict ds n/\StrKeys ds/\UniqKeys ds/\∀x,n8 ρ (lookE es x) (tB ds x)
 | .slots C d vs,o=>∃a sl,ρ[d]? =af a/\o=⟨.ref C,af a,.plain,sl⟩/\sl.size<=vs.length/\∀k:Nat,n8 ρ (vs[k]?).join (sl[k]?).join
 | .exc C t,o=>∃a fs,ρ[t]? =af a/\o.cls= .ref C/\o.data= .fields fs/\fs[0]? =af (.ref a)
 | .kO l k,o=>∃a,ρ[l]? =af a/\o=⟨.type "list_iterator",ae,.fields #[.ref a,.int k 0],#[]⟩
 | .dead,o=>o.isFreed=bc
 | .next it,o=>∃a,ρ[it]? =af a/\o=⟨.type "method-wrapper",ae,.fields #[.builtin "list_iterator.__next__",.ref a],#[]⟩
 | .range a b c,o=>∃x y z,o=⟨.type "range",ae,.fields #[.int a x,.int b y,.int c z],#[]⟩
 | .values d,o=>∃a,ρ[d]? =af a/\o=⟨.type "dict_values",ae,.fields #[.ref a],#[]⟩
def Ext(ρ ρ':List bj):Prop:=∃m,ρ'=ρ++m
theorem Ext.refl(ρ:List bj):Ext ρ ρ:=⟨[],by simp⟩
theorem Ext.trans{a b c:List bj}:Ext a b->Ext b c->Ext a c
 |⟨m,e⟩,⟨m',e'⟩=>⟨m++m',by rw [e',e,aQ]⟩
theorem Ext.at(x:Ext ρ ρ')(h:ρ[i]? =af a):ρ'[i]? =af a:=by
 obtain ⟨m,rfl⟩:=x;have:i<ρ.length:=by
  rcases et i ρ.length with q|q
  ·exact q
  ·rw [eE q] at h;injection h
 refine (aJ this).trans ?_;exact h
theorem cA.ext(x:Ext ρ ρ'){y:ay}(h:cA ρ v y):cA ρ' v y:=by
 induction v using V.casesOn<;>first|exact h|(refine aR h λa h1 h2=>?_;exact ⟨a,x.at h1,h2⟩)
theorem bM.by{P:List V->List ay->Prop}(h0:P [] [])(h1:∀x xs y ys,cA ρ x y->bM ρ xs ys->P xs ys->P (x::xs) (y::ys))(h:bM ρ xs ys):P xs ys:=by
 induction xs generalizing ys with
 |nil=>induction ys using aC with
  |nil=>exact h0
  |cons _ _=>exact h.elim
 |cons x xs ih=>induction ys using aC with
  |nil=>exact h.elim
  |cons y ys=>exact h1 _ _ _ _ h.1 h.2 (ih h.2)
theorem cW.by{P:List (K × V)->List (K × ay)->Prop}(h0:P [] [])(h1:∀k x xs y ys,cA ρ x y->cW ρ xs ys->P xs ys->P ((k,x)::xs) ((k,y)::ys)){xs:List (K × V)}{ys:List (K × ay)}(h:cW ρ xs ys):P xs ys:=by
 induction xs generalizing ys with
 |nil=>induction ys using aC with
  |nil=>exact h0
  |cons _ _=>exact h.elim
 |cons x xs ih=>induction ys using aC with
  |nil=>exact h.elim
  |cons y ys=>
   obtain ⟨a,v⟩:=x;obtain ⟨b,w⟩:=y;obtain rfl:a=b:=h.1.1;exact h1 _ _ _ _ _ h.1.2 h.2 (ih h.2)
theorem bM.ext(x:Ext ρ ρ')(h:bM ρ xs ys):bM ρ' xs ys:=
 h.by (P:=bM ρ') trivial λ_ _ _ _ a _ b=>⟨a.ext x,b⟩
theorem n8.ext(x:Ext ρ ρ'){v:Option V}{y:Option ay}(h:n8 ρ v y):n8 ρ' v y:=by
 induction v using aw with
 |none=>exact h
 |some v=>refine aR h λz e r=>?_;exact ⟨z,e,r.ext x⟩
theorem cW.ext(x:Ext ρ ρ'){xs:List (K × V)}{ys:List (K × ay)}(h:cW ρ xs ys):cW ρ' xs ys:=
 h.by (P:=cW ρ') trivial λ_ _ _ _ _ a _ b=>⟨⟨rfl,a.ext x⟩,b⟩
theorem CC.ext[DecidableEq K]{knd:KeyKind pr w K}(x:Ext ρ ρ'){es:List (K × V)}{o:Obj}(h:CC knd ρ es o):CC knd ρ' es o:=
 ei h λds h=>ei h λn h=>ei h λkvs h=>⟨ds,n,kvs,h.1,h.2.1,h.2.2.1,h.2.2.2.1,h.2.2.2.2.1,h.2.2.2.2.2.ext x⟩
theorem ou.ext(x:Ext ρ ρ'){o:O}{r:Obj}(h:ou pr w ρ o r):ou pr w ρ' o r:=by
 induction o using O.casesOn with
 |list xs=>refine ck h λys n e r z=>?_;exact ⟨ys,n,e,r.ext x,z⟩
 |tuple xs=>refine ck h λys n e r z=>?_;exact ⟨ys,n,e,r.ext x,z⟩
 |dict es=>exact ⟨h.1.ext x,h.2⟩
 |qw es=>exact CC.ext x h
 |B1 xs=>exact h
 |dead=>exact h
 |set xs=>exact h
 |inst C d=>refine aR h λa h1 h2=>?_;exact ⟨a,x.at h1,h2⟩
 |ns es=>refine eu h λds n h1 h2 h3 h4=>?_;exact ⟨ds,n,h1,h2,h3,λy=>(h4 y).ext x⟩
 |slots C d vs=>refine eu h λa sl h0 h1 h2 h3=>?_;exact ⟨a,sl,x.at h0,h1,h2,λk=>(h3 k).ext x⟩
 |exc C t=>refine gc h λa fs h1 h2=>?_;exact ⟨a,fs,x.at h1,h2⟩
 |kO l k=>refine aR h λa h1 h2=>?_;exact ⟨a,x.at h1,h2⟩
 |next it=>refine aR h λa h1 h2=>?_;exact ⟨a,x.at h1,h2⟩
 |range a b c=>exact h
 |values d=>refine aR h λa h1 h2=>?_;exact ⟨a,x.at h1,h2⟩
theorem ou.alive{o:O}{r:Obj}(h:ou pr w ρ o r):r.isFreed=bc:=by
 induction o using O.casesOn with
 |exc C t=>refine eu h λa fs _ _ e _=>?_;obtain ⟨c,d,dt,sl⟩:=r;subst e;rfl
 |list xs=>refine gc h λ_ _ q'1 _=>?_;obtain rfl:=q'1;rfl
 |tuple xs=>refine gc h λ_ _ q'2 _=>?_;obtain rfl:=q'2;rfl
 |dict xs=>obtain ⟨⟨_,_,_,_,e,_⟩,_⟩:=h;obtain ⟨c,d,dt,sl⟩:=r;subst e;rfl
 |qw xs=>refine jo h λ_ _ _ _ e _=>?_;obtain ⟨c,d,dt,sl⟩:=r;subst e;rfl
 |set xs=>refine jo h λ_ _ _ _ e _=>?_;obtain ⟨c,d,dt,sl⟩:=r;subst e;rfl
 |B1 xs=>refine jo h λ_ _ _ _ e _=>?_;obtain ⟨c,d,dt,sl⟩:=r;subst e;rfl
 |dead=>exact h
 |inst C d=>refine aR h λ_ _ q'3=>?_;obtain rfl:=q'3;rfl
 |ns es=>refine gc h λ_ _ e _=>?_;obtain ⟨c,d,dt,sl⟩:=r;subst e;rfl
 |slots C d vs=>refine ck h λ_ _ _ q'4 _=>?_;obtain rfl:=q'4;rfl
 |kO l k=>refine aR h λ_ _ q'5=>?_;obtain rfl:=q'5;rfl
 |next l=>refine aR h λ_ _ q'6=>?_;obtain rfl:=q'6;rfl
 |range a b c=>refine sO h λ_ _ _ q'7=>?_;obtain rfl:=q'7;rfl
 |values d=>refine aR h λ_ _ q'8=>?_;obtain rfl:=q'8;rfl
structure Rep(h₀:pQ)(pr:qL)(w:jw)(ρ:List bj)(σ:List O)(h:pQ):Prop where
 len:ρ.length=σ.length
 nd:ρ.Nodup
 new:∀a∈ρ,h₀.get? a=ae
 obj:∀(i:Nat) (o:O),σ[i]? =af o->∃(a:bj) (r:Obj),ρ[i]? =af a/\h.get? a=af r/\ou pr w ρ o r
 keep:∀b o,h₀.get? b=af o->h.get? b=af o
section
variable{h₀:pQ}
theorem Rep.lt(R:Rep h₀ pr w ρ σ h)(ha:a∈ρ):a<h.objs.size:=by
 obtain ⟨i,hi,e⟩:=oh ha;have hσ:i<σ.length:=R.len▸hi;refine ck (R.obj i σ[i] (de hσ)) λb r h1 h2 _=>?_;rw [de hi,e] at h1;(injection h1 with h1;subst h1);exact dj h2
theorem Rep.fresh(R:Rep h₀ pr w ρ σ h):h₀.get? h.objs.size=ae:=by
 induction q:h₀.get? h.objs.size using aw with
 |none=>rfl
 |some o=>exact absurd (dj (R.keep _ _ q)) (aW _)
theorem Rep.Pr(R:Rep h₀ pr w ρ σ h)(ha:h.objs.size<=a):h₀.get? a=ae:=by
 induction q:h₀.get? a using aw with
 |none=>rfl
 |some o=>exact absurd (dj (R.keep _ _ q)) (cC.mpr ha)
theorem Rep.other(R:Rep h₀ pr w ρ σ h)(hk:∀b o,h.get? b=af o->(b∈ρ∨h₀.get? b=af o)->h'.get? b=af o):Rep h₀ pr w ρ σ h':=
 ⟨R.len,R.nd,R.new,λi o ho=>by
  refine ck (R.obj i o ho) λa r h1 h2 h3=>?_;exact ⟨a,r,h1,hk a r h2 (.inl (bN h1)),h3⟩,λb o hb=>hk b o (R.keep b o hb) (.inr hb)⟩
theorem Rep.push(R:Rep h₀ pr w ρ σ h)(r:Obj):Rep h₀ pr w ρ σ (h.push r):=R.other λ_ _ e _=>aP _ e
theorem Rep.alloc(R:Rep h₀ pr w ρ σ h){o:O}{r:Obj}(hr:ou pr w ρ o r):Rep h₀ pr w (ρ++ [h.objs.size]) (σ++ [o]) (h.push r):=by
 have x:Ext ρ (ρ++ [h.objs.size]):=⟨_,rfl⟩;refine ⟨by simp [R.len],?_,?_,?_,λb o hb=>aP _ (R.keep b o hb)⟩
 ·refine (bk).mpr ?_;exact ⟨R.nd,by exact iK rfl,λa ha b hb=>by simp at hb;subst hb;exact bP (R.lt ha)⟩
 ·intro a ha;rcases aG.mp ha with ha|ha
  ·exact R.new a ha
  ·simp at ha;subst ha;exact R.fresh
 ·intro i o' ho;rcases et i σ.length with q|q
  ·rw [aJ q] at ho;refine ck (R.obj i o' ho) λa r' h1 h2 h3=>?_;exact ⟨a,r',x.at h1,aP _ h2,h3.ext x⟩
  ·rw [bT q] at ho;have:i-σ.length=0:=by
    rcases w5 (i-σ.length) with z|z
    ·exact z
    ·rw [eE (by simp;exact z)] at ho;injection ho
   rw [this] at ho;simp at ho;subst ho;have hi:i=ρ.length:=by refine R.len▸ ?_;exact hV (mB this) q
   subst hi;exact ⟨h.objs.size,r,by simp,dc _ hr.alive,hr.ext x⟩
theorem Rep.setAt(R:Rep h₀ pr w ρ σ h){o:O}{r:Obj}(hi:ρ[i]? =af a)(hs:il a h h')(hr:h'.get? a=af r)(hf:ou pr w ρ o r):Rep h₀ pr w ρ (σ.set i o) h':=by
 have Cm:=bN hi;have l1:i<ρ.length:=by
  rcases et i ρ.length with q|q
  ·exact q
  ·rw [eE q] at hi;injection hi
 refine ⟨by rw [dI];exact R.len,R.nd,R.new,λj o' ho=>?_,λb o' hb=>?_⟩
 ·by_cases hij:i=j
  ·subst hij;rw [dT (by rw [←R.len];exact l1)] at ho;(injection ho with ho;subst ho);exact ⟨a,r,hi,hr,hf⟩
  ·rw [bH hij] at ho;refine ck (R.obj j o' ho) λb r' h1 h2 h3=>?_;refine ⟨b,r',h1,?_,h3⟩;rw [hs.2 b ?_]
   ·exact h2
   ·rintro rfl;exact hij ((ip l1 R.nd).mp (hi.trans h1.symm))
 ·rw [hs.2 b ?_]
  ·exact R.keep b o' hb
  ·rintro rfl;rw [R.new _ Cm] at hb;injection hb
end
noncomputable def own(env:Env):List bj:=env.locals::env.cells.map (·.2)
structure Up where
 sc:Scope
 vals:eB
 fz:List Nat
 kD:List bj
structure Wr where
 own:List bj
 fz:List Nat
 loc:List bj
 kD:List bj
noncomputable def wr(up:Up)(env:Env):Wr:=⟨own env++up.kD,up.fz,own env,up.kD⟩
def mv(ρ:List bj):Option V->Option ay->Prop
 |none,_=>True
 |some x,v=>∃y,v=af y/\cA ρ x y
theorem mv.ext(x:Ext ρ ρ'){v:Option V}{y:Option ay}(h:mv ρ v y):mv ρ' v y:=by
 induction v using aw with
 |none=>trivial
 |some v=>refine aR h λz e r=>?_;exact ⟨z,e,r.ext x⟩
structure VQ(ρ:List bj)(fr:eB)(up:Up)(env:Env)(h:pQ):Prop where
 loc:∃m,h.Ns env.locals m/\∀x,up.sc.names.lookup x=af .local->env.kindOf x=af .local/\mv ρ (getF fr x) (m x)
 G9:∀x,up.sc.names.lookup x=af .cell->env.kindOf x=af .cell/\∃(c:bj) (o:Obj) (v:Option ay),env.cells.lookup x=af c/\h.get? c=af o/\o.data= .cell v/\mv ρ (getF fr x) v
 ES:∀x,up.sc.names.lookup x=af .free->(env.kindOf x=af .cell∨env.kindOf x=af .free)/\∃(c:bj) (o:Obj) (v:Option ay),env.cells.lookup x=af c/\h.get? c=af o/\o.data= .cell v/\mv ρ (getF up.vals x) v
 OZ:∀x,up.sc.names.lookup x=af .globalImplicit->env.kindOf x=af .globalImplicit
theorem VQ.keep{up:Up}(F:VQ ρ fr up env h)(x:Ext ρ ρ')(hk:∀a∈own env,∀o,h.get? a=af o->h'.get? a=af o):VQ ρ' fr up env h':=by
 have cm:∀(y:Str) (c:bj) (l:List (Str × bj)),l.lookup y=af c->c∈l.map (·.2):=by
  intro y c l;induction l with
  |nil=>intro h;injection h
  |cons p r ih=>
   intro h;rw [cz] at h;split at h
   ·(injection h with h;subst h);exact fg
   ·exact i8 _ (ih h)
 refine ⟨?_,λy hy=>?_,λy hy=>?_,F.OZ⟩
 ·refine aR F.loc λm q'1 hm=>?_;obtain ⟨o,es,n,h1,h2,h3⟩:=q'1;exact ⟨m,⟨o,es,n,hk _ (fg ..) _ h1,h2,h3⟩,λy hy=>⟨(hm y hy).1,(hm y hy).2.ext x⟩⟩
 ·refine dZ (F.G9 y hy) λk r'2=>?_;refine b8 r'2 λc o v h1 h2 h3 h4=>?_;exact ⟨k,c,o,v,h1,hk _ (i8 _ (cm y c _ h1)) _ h2,h3,h4.ext x⟩
 ·refine dZ (F.ES y hy) λk r'3=>?_;refine b8 r'3 λc o v h1 h2 h3 h4=>?_;exact ⟨k,c,o,v,h1,hk _ (i8 _ (cm y c _ h1)) _ h2,h3,h4.ext x⟩
structure lH where
 pr:qL
 w:jw
 h₀:pQ
 K:r8
 aj:List (bj × O)
 isIn:K.In h₀
 top:∀a o,aj.lookup a=af o->∃r,h₀.get? a=af r/\ou pr w [] o r
 Ha:∀a o,aj.lookup a=af o->(a==sysModules)=bc
 VR:∃o,h₀.get? sysModules=af o
 ib:List bj
 args:∀{A:iW}{E:ay->aM->Prop}{s:aM}{a C t0:bj}{o:Obj}{fs:Array ay}{Q:ay->aM->Prop},C∈ib->(∀b o,h₀.get? b=af o->s.heap.get? b=af o)->
  s.heap.get? a=af o->o.cls= .ref C->o.data= .fields fs->fs[0]? =af (.ref t0)->Q (.ref t0) {s with toks:=s.toks+1}->wpAny (model pr w) A (oE (.ref a) "args" ao) Q E s
 lim:h₀.NoLimit
 gl:∃mg,h₀.Ns gm mg
 bl:∃mb,h₀.Ns builtinsNs mb/\∀x:Str,x≠("__name__" :Str)->mb x=tA x
structure eh(c:Cx)(B:lH):Prop where
 K:c.K=B.K
 aj:c.aj=B.aj
 ib:c.ib=B.ib
structure VS(env:Env):Prop where
 kind:env.scope.kind= .function
 glob:env.globals=gm
 blt:env.builtins=builtinsNs
structure Fits(B:lH)(ρ:List bj)(σ:List O)(fr:eB)(up:Up)(env:Env)(fl:List Env)(s:aM):Prop where
 rep:Rep B.h₀ B.pr B.w ρ σ s.heap
 mw:VQ ρ fr up env s.heap
 ok:VS env
 rO:∀a∈own env,a∉ρ
 oY:∀a∈own env,B.h₀.get? a=ae
 jK:∀a∈own env,∃o,s.heap.get? a=af o
 mG:env.locals∉env.cells.map (·.2)
 oZ:∀x y c,env.cells.lookup x=af c->env.cells.lookup y=af c->x=y
 gens:s.gens= #[]
 L8:∀e∈fl,e.scope.kind≠ .module/\∃L∈up.kD,e.frame=af L
 Dr:∀L∈up.kD,B.h₀.get? L=ae/\L∉ρ/\L∉env.cells.map (·.2)/\∃o es n,s.heap.get? L=af o/\o.data= .dict es n
structure Step(ρ:List bj)(W:Wr)(s:aM)(ρ':List bj)(s':aM):Prop where
 ext:∃m,ρ'=ρ++m/\∀a∈m,s.heap.get? a=ae
 live:∀b o,s.heap.get? b=af o->∃o',s'.heap.get? b=af o'
 keep:∀b o,s.heap.get? b=af o->(b∉ρ∨∃i∈W.fz,ρ[i]? =af b)->b∉W.own->s'.heap.get? b=af o
 wM:∀b∈W.kD,b∉W.loc->∀o,s.heap.get? b=af o->∃o',s'.heap.get? b=af o'/\o'.data=o.data
 gens:s'.gens=s.gens
 os:s'.os=s.os
 drawn:s'.drawn=s.drawn
theorem Step.ext'{ρ W s ρ' s'}(x:Step ρ W s ρ' s'):Ext ρ ρ':=let ⟨m,e,_⟩:=x.ext;⟨m,e⟩
theorem Step.refl{ρ W s}:Step ρ W s ρ s:=⟨⟨[],by simp,λ_ h=>nomatch h⟩,λ_ o e=>⟨o,e⟩,λ_ _ e _ _=>e,λ_ _ _ o e=>⟨o,e,rfl⟩,rfl,rfl,rfl⟩
theorem Step.toks{ρ W}:Step ρ W s ρ {s with toks:=tk}:=⟨⟨[],by simp,λ_ h=>nomatch h⟩,λ_ o e=>⟨o,e⟩,λ_ _ e _ _=>e,λ_ _ _ o e=>⟨o,e,rfl⟩,rfl,rfl,rfl⟩
theorem Step.trans{ρ W s ρ_1 s₁ ρ_2 s_2}(x:Step ρ W s ρ_1 s₁)(y:Step ρ_1 W s₁ ρ_2 s_2):Step ρ W s ρ_2 s_2:=by
 refine aR x.ext λm e hm=>?_;refine aR y.ext λm' e' hm'=>?_;refine ⟨⟨m++m',by rw [e',e,aQ],λa ha=>?_⟩,λb o hb=>let ⟨o',h'⟩:=x.live b o hb;y.live b o' h',λb o hb h1 h2=>?_,λb hb hl o e=>let ⟨o_1,e_1,d₁⟩:=x.wM b hb hl o e;let ⟨o_2,e_2,d_2⟩:=y.wM b hb hl o_1 e_1;⟨o_2,e_2,d_2.trans d₁⟩,y.gens.trans x.gens,y.os.trans x.os,y.drawn.trans x.drawn⟩
 ·rcases aG.mp ha with ha|ha
  ·exact hm a ha
  ·induction q:s.heap.get? a using aw with
   |none=>rfl
   |some o=>
    obtain ⟨o',h'⟩:=x.live a o q;rw [hm' a ha] at h';injection h'
 ·refine y.keep b o (x.keep b o hb h1 h2) ?_ h2;rcases h1 with h1|⟨i,hi,h1⟩
  ·refine .inl ?_;refine e▸ ?_;intro hq;rcases aG.mp hq with hq|hq
   ·exact h1 hq
   ·rw [hm b hq] at hb;injection hb
  ·exact .inr ⟨i,hi,x.ext'.at h1⟩
theorem Fits.step{B ρ σ fr up env fl s ρ' σ' ej s'}(F:Fits B ρ σ fr up env fl s)(x:Step ρ (wr up env) s ρ' s')(R:Rep B.h₀ B.pr B.w ρ' σ' s'.heap)(Fr':VQ ρ' ej up env s'.heap):Fits B ρ' σ' ej up env fl s':=by
 refine aR x.ext λm e hm=>?_;have Sl:∀a,(∃o,s.heap.get? a=af o)->a∉ρ->a∉ρ':=λa ha h1 h2=>by
  rw [e] at h2;rcases aG.mp h2 with q|q
  ·exact h1 q
  ·obtain ⟨o,ha⟩:=ha;rw [hm a q] at ha;injection ha
 refine ⟨R,Fr',F.ok,λa ha=>Sl a (F.jK a ha) (F.rO a ha),F.oY,λa ha=>let ⟨o,h⟩:=F.jK a ha;x.live a o h,F.mG,F.oZ,x.gens.trans F.gens,F.L8,λL W9=>?_⟩;refine iz (F.Dr L W9) λh3 h4 h5 r'4=>?_;refine gb r'4 λo es n h6 h7=>?_;refine ⟨h3,Sl L ⟨o,h6⟩ h4,h5,?_⟩;by_cases hL:L=env.locals
 ·subst hL;refine aR Fr'.loc λm' q'5 _=>?_;obtain ⟨o',es',n',q1,q2,_⟩:=q'5;exact ⟨o',es',n',q1,q2⟩
 ·have hno:L∉own env:=by
   unfold own;intro hq;rcases jJ hq with q|q
   ·exact hL q
   ·exact h5 q
  refine aR (x.wM L W9 hno o h6) λo' e' d'=>?_;exact ⟨o',es,n,e',d'.trans h7⟩
theorem Fits.kD{B ρ σ fr up env fl s}(F:Fits B ρ σ fr up env fl s):∀e∈fl,e.scope.kind≠ .module/\∃L,e.frame=af L/\B.h₀.get? L=ae/\L∉ρ/\L∉env.cells.map (·.2)/\∃o es n,s.heap.get? L=af o/\o.data= .dict es n:=λe he=>
 let ⟨h1,L,h2,h3⟩:=F.L8 e he;⟨h1,L,h3,F.Dr L h2⟩
theorem Fits.xC{B ρ σ fr up env fl s}(F:Fits B ρ σ fr up env fl s)(h:s.heap.get? a=ae):a∉up.kD:=λhm=>by
 refine iz (F.Dr a hm) λ_ _ _ r'6=>?_;refine gb r'6 λo _ _ h6 _=>?_;rw [h] at h6;injection h6
theorem Fits.Ti{B ρ σ fr up env fl s}(F:Fits B ρ σ fr up env fl s)(h:a∈ρ):a∉(wr up env).own:=λhm=>by
 rcases aG.mp hm with hm|hm
 ·exact F.rO a hm h
 ·exact (F.Dr a hm).2.1 h
structure Lv where
 n:Nat
 hd:Bool
structure kE(A:iW)(k:Lv):Prop where
 depth:A.depth+2*k.n<recursionLimit
 units:A.units+20*k.n+200<cLine
 hd:k.hd=ao->A.handled=ae
def Go(B:lH)(k:Lv)(env:Env)(fl:List Env)(up:Up)(Pre:List bj->Prop)(m:Sem α)(fr:eB)(σ:List O)(R:List bj->α->Prop)(ej:eB)(σ':List O):Prop:=
 ∀(A:iW) (ρ:List bj) (s:aM) (Q:α->aM->Prop) (E:ay->aM->Prop),kE A k->A.frames=af fl->Fits B ρ σ fr up env fl s->Pre ρ->
  (∀ρ' s' a,Step ρ (wr up env) s ρ' s'->Fits B ρ' σ' ej up env fl s'->R ρ' a->Q a s')->wpAny (model B.pr B.w) A m Q E s
section
variable{B:lH}{k:Lv}{up:Up}{C5 wq:eB}{σ_1 σ_2:List O}{R:List bj->α->Prop}{R':List bj->β->Prop}
theorem Fits.toks(F:Fits B ρ σ fr up env fl s)(tk:Nat):Fits B ρ σ fr up env fl {s with toks:=tk}:=⟨F.rep,F.mw,F.ok,F.rO,F.oY,F.jK,F.mG,F.oZ,F.gens,F.L8,F.Dr⟩
end
variable{B:lH}{up:Up}
section
variable{k:Lv}{C5 wq:eB}{σ_1 σ_2:List O}
theorem ET(h:¬z3 x=ao):(x==("__debug__" :Str))=bc/\x≠("__name__" :Str)/\(x==("__classdict__" :Str))=bc:=by
 unfold z3 at h;simp only [ez,not_or] at h;obtain ⟨⟨h1,h2⟩,h3⟩:=h;refine ⟨by simpa using h1,λe=>h2 (by rw [e];rfl),by simpa using h3⟩
theorem Fits.base(F:Fits B ρ σ fr up env fl s):∀b o,B.h₀.get? b=af o->s.heap.get? b=af o:=F.rep.keep
theorem Fits.isIn(F:Fits B ρ σ fr up env fl s):B.K.In s.heap:=B.isIn.keeps F.base
theorem cA.ki{v:ay}{x:V}(h:ki v=af x):cA ρ x v:=by
 induction v using iN<;>first|(cases h;first|rfl|exact ⟨_,rfl⟩)|injection h
theorem CD{y:V}{s':eP}(hK:c.K=B.K)(F:Fits B ρ σ fr up env fl s)(e:zv c up.sc up.vals x up.fz ⟨fr,σ⟩=af (y,s')):
  s'=⟨fr,σ⟩/\∀{Q:ay->aM->Prop},(∀v,cA ρ y v->Q v s)->wpAny (model B.pr B.w) A (eval (.Name x pos) env) Q E s:=by
 dsimp only [zv] at e;by_cases hb:z3 x=ao
 ·rw [if_pos hb] at e;exact kX e
 rw [if_neg hb] at e;refine cT (ET hb) λd1 d2 d3=>?_;induction hk:up.sc.names.lookup x using aw with
 |none=>rw [hk] at e;exact kX e
 |some kd=>
  rw [hk] at e;induction kd using tC with
  |globalExplicit=>exact kX e
  |«local»=>
   refine aR (bY.mp (show (getF fr x).map (λv=>(v,(⟨fr,σ⟩:eP)))=af (y,s') from e)) λv hv e'=>?_;obtain ⟨⟩:=e';refine ⟨rfl,λq=>w6 ?_ d1⟩;refine aR F.mw.loc λm hn hm=>?_;obtain ⟨hk',this⟩:=hm x hk;rw [show getF fr x=af y from hv] at this;refine aR this λz hz r=>?_;exact wpAny_loadName_local F.ok.kind hk' hn hz (q z r)
  |cell=>
   refine aR (bY.mp (show (getF fr x).map (λv=>(v,(⟨fr,σ⟩:eP)))=af (y,s') from e)) λv hv e'=>?_;obtain ⟨⟩:=e';refine ⟨rfl,λq=>w6 ?_ d1⟩;refine dZ (F.mw.G9 x hk) λhk' r'1=>?_;refine b8 r'1 λc o v h1 h2 h3 h4=>?_;rw [hv] at h4;refine aR h4 λz hz r=>?_;subst hz;exact vU F.ok.kind hk' h1 ⟨o,h2,h3⟩ (q z r)
  |free=>
   refine aR (bY.mp (show (getF up.vals x).map (λv=>(v,(⟨fr,σ⟩:eP)))=af (y,s') from e)) λv hv e'=>?_;obtain ⟨⟩:=e';refine ⟨rfl,λq=>w6 ?_ d1⟩;refine dZ (F.mw.ES x hk) λhk' r'2=>?_;refine b8 r'2 λc o v h1 h2 h3 h4=>?_;rw [hv] at h4;refine aR h4 λz hz r=>?_;subst hz;rcases hk' with hk'|hk'
   ·exact vU F.ok.kind hk' h1 ⟨o,h2,h3⟩ (q z r)
   ·exact wpAny_loadName_free F.ok.kind hk' h1 ⟨o,h2,h3⟩ (q z r) d3
  |globalImplicit=>
   dsimp only at e;rw [hK] at e;obtain ⟨mg,hg⟩:=B.gl;refine aR B.bl λmb hb' hbb=>?_;have hg':=hg.keeps F.base;have Zg:=hb'.keeps F.base;have load:∀{Q:ay->aM->Prop},wpAny (model B.pr B.w) A (loadGlobal env x) Q E s->wpAny (model B.pr B.w) A (eval (.Name x pos) env) Q E s:=λh=>w6 (by refine (loadName_read F.ok.kind (F.mw.OZ x hk))▸ ?_;exact h) d1;induction hv:nsIn B.K gm x using aw with
   |none=>rw [hv] at e;exact kX e
   |some o=>
    rw [hv] at e;induction o using aw with
    |none=>
     refine aR (bY.mp (show ((tA x).bind Internal.ki).map (λv=>(v,(⟨fr,σ⟩:eP)))=af (y,s') from e)) λv hv' e'=>?_;obtain ⟨⟩:=e';refine ⟨rfl,λq=>load ?_⟩;dsimp only [loadGlobal];rw [F.ok.glob,F.ok.blt];refine aB (zP hg' ?_);refine (mg_none_of B.isIn hg hv)▸ ?_;refine aR (di.mp hv') λv' Zh e'=>?_;refine aB (zP Zg ?_);rw [hbb x d2,Zh];exact bG (q v' (.ki e'))
    |some u=>
     refine aR (bY.mp (show (Internal.ki u).map (λv=>(v,(⟨fr,σ⟩:eP)))=af (y,s') from e)) λv hv' e'=>?_;obtain ⟨⟩:=e';refine ⟨rfl,λq=>load ?_⟩;dsimp only [loadGlobal];rw [F.ok.glob,F.ok.blt];refine aB (zP hg' ?_);refine (mg_of B.isIn hg hv)▸ ?_;exact bG (q u (.ki hv'))
end
theorem mem_lookup{c:β}:∀{l:List (Str × β)},l.lookup x=af c->c∈l.map (·.2)
 |(y,d)::r,h=>by
  rw [cz] at h;split at h
  ·obtain ⟨⟩:=h;exact fg
  ·exact i8 _ (mem_lookup h)
theorem b9(fr:eB)(x y:Str)(v:V):getF (putF fr x v) y=if y=x then af v else getF fr y:=by
 induction fr with
 |nil=>
  simp only [putF,getF];by_cases h:y=x
  ·subst h;rfl
  ·rw [if_neg (λe=>h e.symm),if_neg h]
 |cons p r ih=>
  obtain ⟨z,u⟩:=p;simp only [putF];by_cases hz:z=x
  ·refine (if_pos hz)▸ ?_;simp only [getF];by_cases h:y=x
   ·subst h;rw [if_pos hz,if_pos rfl]
   ·rw [if_neg (λe=>h (e.symm.trans hz)),if_neg h,if_neg (λe=>h (e.symm.trans hz))]
  ·refine (if_neg hz)▸ ?_;simp only [getF];by_cases h:y=x
   ·subst h;rw [if_neg hz,ih,if_pos rfl,if_pos rfl]
   ·refine (if_neg h)▸ ?_;by_cases Yr:z=y
    ·rw [if_pos Yr,if_pos Yr]
    ·rw [if_neg Yr,if_neg Yr,ih,if_neg h]
section
variable{k:Lv}{C5 wq:eB}{σ_1 σ_2:List O}
theorem step_same{W:Wr}{o:Obj}(hs:il a s.heap h')(ho:h'.get? a=af o)(ha:a∈W.own)(hl':a∈W.loc):Step ρ W s ρ {s with heap:=h',toks:=tk}:=
 ⟨⟨[],by simp,λ_ h=>nomatch h⟩,λb o' e=>by
  by_cases hb:b=a
  ·subst hb;exact ⟨o,ho⟩
  ·exact ⟨o',(hs.2 b hb).trans e⟩,λb o e _ h2=>(hs.2 b λq=>h2 (q▸ha)).trans e,λb _ hl o e=>⟨o,(hs.2 b λq=>hl (q▸hl')).trans e,rfl⟩,rfl,rfl,rfl⟩
theorem AH(R:Rep B.h₀ B.pr B.w ρ σ h)(hs:il a h h')(h1:a∉ρ)(h2:B.h₀.get? a=ae):Rep B.h₀ B.pr B.w ρ σ h':=
 R.other λb o e hb=>(hs.2 b (by
  rintro rfl;rcases hb with q|q
  ·exact h1 q
  ·rw [h2] at q;injection q)).trans e
theorem EU(e:setC up.sc x v up.fz ⟨fr,σ⟩=af ((),s₁))(hp:∀ρ,Pre ρ->cA ρ v val):
  s₁=⟨putF fr x v,σ⟩/\Go B k env fl up Pre (storeName env x val) fr σ (λ_ _=>True) (putF fr x v) σ:=by
 dsimp only [setC] at e;induction hk:up.sc.names.lookup x using aw with
 |none=>rw [hk] at e;injection e
 |some kd=>
  rw [hk] at e;induction kd using tC with
  |globalExplicit=>injection e
  |globalImplicit=>injection e
  |free=>injection e
  |«local»=>
   obtain ⟨⟩:=e;refine ⟨rfl,λA ρ s Q E _ _ F p q=>?_⟩;refine aR F.mw.loc λm hn hm=>?_;have hL:env.locals∈own env:=fg ..;refine uc (hm x hk).1 hn (λh' hn' hs=>?_) (by refine F.ok.kind▸ ?_;rfl);refine gb (id hn') λon _ _ Zi _=>?_;have st:Step ρ (wr up env) s ρ {s with heap:=h',toks:=s.toks+1}:=step_same hs Zi (cf _ hL) hL;refine q ρ _ () st (F.step st (AH F.rep hs (F.rO _ hL) (F.oY _ hL)) ⟨⟨_,hn',λy hy=>⟨(hm y hy).1,?_⟩⟩,λy hy=>?_,λy hy=>?_,F.mw.OZ⟩) trivial
   ·rw [b9];by_cases h:y=x
    ·rw [if_pos h,if_pos h];exact ⟨val,rfl,hp ρ p⟩
    ·rw [if_neg h,if_neg h];exact (hm y hy).2
   ·refine dZ (F.mw.G9 y hy) λk' r'1=>?_;refine b8 r'1 λc o v' h1 h2 h3 h4=>?_;have hc:c∈env.cells.map (·.2):=mem_lookup h1;refine ⟨k',c,o,v',h1,(hs.2 c λq=>F.mG (q▸hc)).trans h2,h3,?_⟩;rw [b9,if_neg (by rintro rfl;rw [hk] at hy;contradiction)];exact h4
   ·refine dZ (F.mw.ES y hy) λk' r'2=>?_;refine b8 r'2 λc o v' h1 h2 h3 h4=>?_;have hc:c∈env.cells.map (·.2):=mem_lookup h1;exact ⟨k',c,o,v',h1,(hs.2 c λq=>F.mG (q▸hc)).trans h2,h3,h4⟩
  |cell=>
   obtain ⟨⟩:=e;refine ⟨rfl,λA ρ s Q E _ _ F p q=>?_⟩;refine dZ (F.mw.G9 x hk) λk' r'3=>?_;refine b8 r'3 λc o v' h1 h2 h3 h4=>?_;have hc:c∈env.cells.map (·.2):=mem_lookup h1;have hL:c∈own env:=i8 _ hc;refine wpAny_storeName_cell F.ok.kind k' h1 ⟨o,h2,h3⟩ λh' hn' hs=>?_;refine aR F.mw.loc λm hn hm=>?_;refine aR hn' λo' ho' hd'=>?_;have st:Step ρ (wr up env) s ρ {s with heap:=h'}:=step_same (tk:=s.toks) hs ho' (cf _ hL) hL;refine q ρ _ () st (F.step st (AH F.rep hs (F.rO _ hL) (F.oY _ hL)) ⟨⟨m,hn.sameBut hs λq=>F.mG (q▸hc),λy hy=>⟨(hm y hy).1,?_⟩⟩,λy hy=>?_,λy hy=>?_,F.mw.OZ⟩) trivial
   ·rw [b9,if_neg (by rintro rfl;rw [hk] at hy;contradiction)];exact (hm y hy).2
   ·by_cases h:y=x
    ·subst h;refine ⟨k',c,o',af val,h1,ho',hd',?_⟩;rw [b9,if_pos rfl];exact ⟨val,rfl,hp ρ p⟩
    ·refine dZ (F.mw.G9 y hy) λk'' r'4=>?_;refine b8 r'4 λc' O6 Zj g1 g2 g3 g4=>?_;refine ⟨k'',c',O6,Zj,g1,(hs.2 c' λq=>h (F.oZ y x c' g1 (q▸h1))).trans g2,g3,?_⟩;rw [b9,if_neg h];exact g4
   ·have h:y≠x:=by rintro rfl;rw [hk] at hy;contradiction
    refine dZ (F.mw.ES y hy) λk'' r'5=>?_;refine b8 r'5 λc' O6 Zj g1 g2 g3 g4=>?_;exact ⟨k'',c',O6,Zj,g1,(hs.2 c' λq=>h (F.oZ y x c' g1 (q▸h1))).trans g2,g3,g4⟩
end
theorem lu:h.get? h.objs.size=ae:=by
 induction q:h.get? h.objs.size using aw with
 |none=>rfl
 |some o=>exact absurd (dj q) (aW _)
theorem bM.length(h:bM ρ xs ys):xs.length=ys.length:=
 h.by (P:=λxs ys=>xs.length=ys.length) rfl λ_ _ _ _ _ _ h=>congrArg (· +1) h
theorem bM.get{x:V}(h:bM ρ xs ys)(e:xs[i]? =af x):∃y,ys[i]? =af y/\cA ρ x y:=
 h.by (P:=λxs ys=>∀i,xs[i]? =af x->∃y,ys[i]? =af y/\cA ρ x y) (λi e=>by rw [List.getElem?_nil] at e;injection e) (λa xs y ys r _ ih i e=>by
  induction i using lE with
  |zero=>injection e with e;subst e;exact ⟨y,rfl,r⟩
  |succ i=>exact ih i e) i e
theorem bM.none(h:bM ρ xs ys)(e:xs[i]? =ae):ys[i]? =ae:=by
 rw [qo] at e ⊢;rw [←h.length];exact e
theorem bM.append{xs':List V}{ys':List ay}(h:bM ρ xs ys)(h':bM ρ xs' ys'):bM ρ (xs++xs') (ys++ys'):=
 h.by (P:=λxs ys=>bM ρ (xs++xs') (ys++ys')) h' λ_ _ _ _ r _ ih=>⟨r,ih⟩
theorem bM.take(n:Nat):∀{xs:List V}{ys:List ay},bM ρ xs ys->bM ρ (xs.take n) (ys.take n):=by
 induction n with
 |zero=>intro xs ys _;trivial
 |succ n ih=>
  intro xs ys h
  match xs,ys,h with
  | [],[],_=>assumption
  |_::_,_::_,⟨a,b⟩=>exact ⟨a,ih b⟩
theorem bM.drop(n:Nat):∀{xs:List V}{ys:List ay},bM ρ xs ys->bM ρ (xs.drop n) (ys.drop n):=by
 induction n with
 |zero=>intro xs ys h;exact h
 |succ n ih=>
  intro xs ys h
  match xs,ys,h with
  | [],[],_=>assumption
  |_::_,_::_,⟨a,b⟩=>simpa using ih b
theorem bM.reverse:∀{xs:List V}{ys:List ay},bM ρ xs ys->bM ρ xs.reverse ys.reverse
 | [],[],_=>trivial
 |_::_,_::_,⟨a,b⟩=>by rw [qN,qN];exact b.reverse.append ⟨a,trivial⟩
section
variable{k:Lv}{C5 wq:eB}{σ_1 σ_2:List O}
theorem Fits.obj{o:O}{s':eP}(F:Fits B ρ σ fr up env fl s)(hT:c.aj=B.aj)(e:el c v up.fz ⟨fr,σ⟩=af (o,s'))(hv:cA ρ v val):
  s'=⟨fr,σ⟩/\∃a r,val= .ref a/\s.heap.get? a=af r/\ou B.pr B.w ρ o r:=by
 dsimp only [el] at e;induction v using V.casesOn with
 |ref i=>
  refine aR (bY.mp (show (σ[i]?).map (λo=>(o,(⟨fr,σ⟩:eP)))=af (o,s') from e)) λo' h1 h2=>?_;obtain ⟨⟩:=h2;refine aR hv λa ha q'1=>?_;obtain rfl:=q'1;refine ck (F.rep.obj i o h1) λb r g1 g2 g3=>?_;rw [ha] at g1;(injection g1 with g1;subst g1);exact ⟨rfl,a,r,rfl,g2,g3⟩
 |top a=>
  refine aR (bY.mp (show (c.aj.lookup a).map (λo=>(o,(⟨fr,σ⟩:eP)))=af (o,s') from e)) λo' h1 h2=>?_;obtain ⟨⟩:=h2;subst hv;rw [hT] at h1;refine aR (B.top a o h1) λr g1 g2=>?_;exact ⟨rfl,a,r,rfl,F.base _ _ g1,g2.ext ⟨ρ,by simp⟩⟩
 |_=>injection e
theorem Fits.ref{o:O}(F:Fits B ρ σ fr up env fl s)(e:σ[i]? =af o)(hv:cA ρ (.ref i) val):
  ∃a r,val= .ref a/\ρ[i]? =af a/\s.heap.get? a=af r/\ou B.pr B.w ρ o r:=by
 refine aR hv λa ha q'2=>?_;obtain rfl:=q'2;refine ck (F.rep.obj i o e) λb r g1 g2 g3=>?_;rw [ha] at g1;(injection g1 with g1;subst g1);exact ⟨a,r,rfl,ha,g2,g3⟩
theorem Fits.alloc{o:O}{r:Obj}(F:Fits B ρ σ fr up env fl s)(hr:ou B.pr B.w ρ o r)(tk:Nat):
  Step ρ (wr up env) s (ρ++ [s.heap.objs.size]) {s with heap:=s.heap.push r,toks:=tk}/\Fits B (ρ++ [s.heap.objs.size]) (σ++ [o]) fr up env fl {s with heap:=s.heap.push r,toks:=tk}/\
   cA (ρ++ [s.heap.objs.size]) (.ref σ.length) (.ref s.heap.objs.size):=by
 have st:Step ρ (wr up env) s (ρ++ [s.heap.objs.size]) {s with heap:=s.heap.push r,toks:=tk}:=
  ⟨⟨_,rfl,λa ha=>by simp at ha;subst ha;exact lu⟩,λb o e=>⟨o,aP _ e⟩,λb o e _ _=>aP _ e,λ_ _ _ o e=>⟨o,aP _ e,rfl⟩,rfl,rfl,rfl⟩
 refine ⟨st,F.step st (F.rep.alloc hr) ?_,s.heap.objs.size,?_,rfl⟩
 ·exact F.mw.keep st.ext' λa _ o e=>aP _ e
 ·refine (F.rep.len).symm▸ ?_;simp
theorem Fits.hidden(F:Fits B ρ σ fr up env fl s)(r:Obj)(tk:Nat):
  Step ρ (wr up env) s ρ {s with heap:=s.heap.push r,toks:=tk}/\Fits B ρ σ fr up env fl {s with heap:=s.heap.push r,toks:=tk}:=by
 have st:Step ρ (wr up env) s ρ {s with heap:=s.heap.push r,toks:=tk}:=
  ⟨⟨[],by simp,λa ha=>nomatch ha⟩,λb o e=>⟨o,aP _ e⟩,λb o e _ _=>aP _ e,λ_ _ _ o e=>⟨o,aP _ e,rfl⟩,rfl,rfl,rfl⟩
 refine ⟨st,F.step st (F.rep.push r) ?_⟩;exact F.mw.keep st.ext' λa _ o e=>aP _ e
theorem Fits.setAt{o:O}{r:Obj}(F:Fits B ρ σ fr up env fl s)(hf':i∉up.fz)(hi:ρ[i]? =af a)(hs:il a s.heap h')(hr:h'.get? a=af r)(hf:ou B.pr B.w ρ o r)(tk:Nat):
  Step ρ (wr up env) s ρ {s with heap:=h',toks:=tk}/\Fits B ρ (σ.set i o) fr up env fl {s with heap:=h',toks:=tk}:=by
 have Cm:=bN hi;have st:Step ρ (wr up env) s ρ {s with heap:=h',toks:=tk}:=
  ⟨⟨[],by simp,λa ha=>nomatch ha⟩,λb o e=>by
   by_cases hb:b=a
   ·subst hb;exact ⟨r,hr⟩
   ·exact ⟨o,(hs.2 b hb).trans e⟩,λb o e h1 _=>(hs.2 b (by
   rintro rfl;rcases h1 with h1|⟨j,hj,h1⟩
   ·exact h1 Cm
   ·have l1:i<ρ.length:=by
     rcases et i ρ.length with q|q
     ·exact q
     ·rw [eE q] at hi;injection hi
    have:=(ip l1 F.rep.nd).mp (hi.trans h1.symm);subst this;exact hf' hj)).trans e,λb hb _ o e=>⟨o,(hs.2 b (by rintro rfl;exact (F.Dr _ hb).2.1 Cm)).trans e,rfl⟩,rfl,rfl,rfl⟩
 refine ⟨st,F.step st (F.rep.setAt hi hs hr hf) ?_⟩;exact F.mw.keep st.ext' λb hb o e=>(hs.2 b (by rintro rfl;exact F.rO _ hb Cm)).trans e
end
section
variable{s s':eP}
theorem bind_some{m:M α}{f:α->M β}{r:β × eP}(h:(m>>=f) z s=af r):∃a s₁,m z s=af (a,s₁)/\f a z s₁=af r:=by
 change (match m z s with|some (a,s')=>f a z s'|none=>ae)=af r at h;induction hm:m z s using aw with
 |none=>rw [hm] at h;injection h
 |some x=>rw [hm] at h;exact ⟨x.1,x.2,rfl,h⟩
theorem nn{x:α}(h:(ae:Option α)=af x):p:=nomatch h
theorem bQ{m:M α}{f:α->M β}{r:β × eP}(h:(m>>=f) z s=af r)(k:∀a s₁,m z s=af (a,s₁)->f a z s₁=af r->p):p:=
 let ⟨a,s₁,h1,h2⟩:=bind_some h
 k a s₁ h1 h2
theorem aK{a b:α}(h:(aA a:M α) z s=af (b,s')):b=a/\s'=s:=by
 change af (a,s)=af (b,s') at h;obtain ⟨⟩:=h;exact ⟨rfl,rfl⟩
theorem jB{o:Option α}{a:α}(h:lift o z s=af (a,s')):o=af a/\s'=s:=by
 unfold lift at h;refine aR (bY.mp h) λx h1 h2=>?_;obtain ⟨⟩:=h2;exact ⟨h1,rfl⟩
theorem eQ{o:O}(h:alloc o z s=af (v,s')):sizeOk o=ao/\v= .ref s.os.length/\s'=⟨s.fr,s.os++ [o]⟩:=by
 unfold alloc at h;split at h
 ·rename_i hz;obtain ⟨⟩:=h;exact ⟨hz,rfl,rfl⟩
 ·exact nn h
theorem i5{o:O}(h:gU i o z s=af (u,s')):i<s.os.length/\sizeOk o=ao/\i∉z/\s'=⟨s.fr,s.os.set i o⟩:=by
 unfold gU at h;split at h
 ·rename_i hz;obtain ⟨⟩:=h;exact ⟨hz.1,hz.2.1,hz.2.2,rfl⟩
 ·exact nn h
theorem CE{o:O}(h:el c v z s=af (o,s')):s'=s:=by
 unfold el at h;induction v using V.casesOn with
 |ref _=>
  refine aR (bY.mp h) λx h1 h2=>?_;obtain ⟨⟩:=h2;rfl
 |top _=>
  refine aR (bY.mp h) λx h1 h2=>?_;obtain ⟨⟩:=h2;rfl
 |_=>
  exact nn h
theorem uH{o:O}(h:el c (.ref i) z s=af (o,s')):s.os[i]? =af o/\s'=s:=by
 refine aR (bY.mp (show (s.os[i]?).map (λo=>(o,s))=af (o,s') from h)) λx h1 h2=>?_;obtain ⟨⟩:=h2;exact ⟨h1,rfl⟩
theorem objE{f:O->M β}{r:β × eP}(h:(el c v>>=f) z s=af r)(k:∀o,el c v z s=af (o,s)->f o z s=af r->p):p:=
 bQ h λo s₁ h1 h2=>by
  obtain rfl:=CE h1;exact k o h1 h2
theorem nE{x:Option α}{f:α->M β}{r:β × eP}(h:(lift x>>=f) z s=af r)(k:∀a,x=af a->f a z s=af r->p):p:=
 bQ h λa s₁ h1 h2=>by
  obtain ⟨h3,rfl⟩:=jB h1;exact k a h3 h2
theorem L9{f:O->M β}{r:β × eP}(h:(el c (.ref i)>>=f) z s=af r)(k:∀o,s.os[i]? =af o->f o z s=af r->p):p:=
 bQ h λo s₁ h1 h2=>by
  obtain ⟨h3,rfl⟩:=uH h1;exact k o h3 h2
end
abbrev KV(B:lH)(env:Env)(fl:List Env)(up:Up)(ρ:List bj)(s:aM)(ej:eB)(σ':List O)(v:V)(Q:ay->aM->Prop):Prop:=
 ∀ρ' s' x,Step ρ (wr up env) s ρ' s'->Fits B ρ' σ' ej up env fl s'->cA ρ' v x->Q x s'
abbrev KA(B:lH)(env:Env)(fl:List Env)(up:Up)(ρ:List bj)(s:aM)(ej:eB)(σ':List O)(a:α)(Q:α->aM->Prop):Prop:=
 ∀ρ' s',Step ρ (wr up env) s ρ' s'->Fits B ρ' σ' ej up env fl s'->Q a s'
section
variable{s:aM}
theorem KV.toks{x:ay}(q:KV B env fl up ρ s fr σ v Q)(F:Fits B ρ σ fr up env fl s)(h:cA ρ v x):Q x {s with toks:=tk}:=q ρ _ x Step.toks (F.toks _) h
theorem KV.same{x:ay}(q:KV B env fl up ρ s fr σ v Q)(F:Fits B ρ σ fr up env fl s)(h:cA ρ v x):Q x s:=q ρ s x Step.refl F h
theorem KA.toks{a:α}{Q:α->aM->Prop}(q:KA B env fl up ρ s fr σ a Q)(F:Fits B ρ σ fr up env fl s):Q a {s with toks:=tk}:=q ρ _ Step.toks (F.toks _)
theorem KA.same{a:α}{Q:α->aM->Prop}(q:KA B env fl up ρ s fr σ a Q)(F:Fits B ρ σ fr up env fl s):Q a s:=q ρ s Step.refl F
theorem KV.alloc{o:O}{r:Obj}(q:KV B env fl up ρ s fr (σ++ [o]) (.ref σ.length) Q)(F:Fits B ρ σ fr up env fl s)(h:ou B.pr B.w ρ o r):Q (.ref s.heap.objs.size) {s with heap:=s.heap.push r,toks:=tk}:=by
 refine cT (F.alloc h tk) λh1 h2 h3=>?_;exact q _ _ _ h1 h2 h3
theorem Fits.jC{s':eP}(F:Fits B ρ σ fr up env fl s)(hT:c.aj=B.aj)(e:el c v up.fz ⟨fr,σ⟩=af (.list xs,s'))(hv:cA ρ v val):
  ∃a ys n,val= .ref a/\s.heap.get? a=af ⟨.type "list",ae,.seq ys n,#[]⟩/\bM ρ xs ys.toList/\ys.size<=1000000:=by
 refine dZ (F.obj hT e hv) λq'1 r'3=>?_;refine ck r'3 λa r h1 h2 r'4=>?_;refine ck r'4 λys n q'2 h3 h4=>?_;obtain rfl:=q'1;obtain rfl:=q'2;exact ⟨a,ys,n,h1,h2,h3,h4⟩
theorem Fits.mH{s':eP}(F:Fits B ρ σ fr up env fl s)(hT:c.aj=B.aj)(e:el c v up.fz ⟨fr,σ⟩=af (.tuple xs,s'))(hv:cA ρ v val):
  ∃a ys n,val= .ref a/\s.heap.get? a=af ⟨.type "tuple",ae,.seq ys n,#[]⟩/\bM ρ xs ys.toList/\ys.size<=1000000:=by
 refine dZ (F.obj hT e hv) λq'5 r'7=>?_;refine ck r'7 λa r h1 h2 r'8=>?_;refine ck r'8 λys n q'6 h3 h4=>?_;obtain rfl:=q'5;obtain rfl:=q'6;exact ⟨a,ys,n,h1,h2,h3,h4⟩
theorem EW{a:Int}(h:a.natAbs<=1000000000):vV a<=64:=by
 have:a.natAbs<2^30:=Iu h rfl;unfold vV;split
 ·exact fm _
 ·rename_i hz
  have:=(Nat.log2_lt (by simpa using hz)).mpr this;exact bR this
theorem bM.toArray{ys:Array ay}{zs:List V}{ws:Array ay}(h:bM ρ xs ys.toList)(h':bM ρ zs ws.toList):bM ρ (xs++zs) (ys++ws).toList:=by
 rw [oj];exact h.append h'
theorem Ds{a:V}{f:Int->M α}{s:eP}{r:α × eP}{x:ay}(e:e9 a.ml f z s=af r)(hx:cA ρ a x)(k:∀i t,x= .int i t->f i z s=af r->C):C:=
 bZ e λi w e=>by
  obtain rfl:=CB w;exact lG hx λt h=>k i t h e
theorem Hb{a:V}{f:Str->M α}{s:eP}{r:α × eP}{x:ay}(e:e9 a.jU f z s=af r)(hx:cA ρ a x)(k:∀i t,x= .str i t->f i z s=af r->C):C:=
 bZ e λi w e=>by
  obtain rfl:=nD w;exact lG hx λt h=>k i t h e
theorem listE{f:List V->M α}{r:α × eP}{x:ay}(e:(el c o>>=λob=>e9 ob.jX f) up.fz ⟨fr,σ⟩=af r)(F:Fits B ρ σ fr up env fl s)(hT:c.aj=B.aj)(hx:cA ρ o x)
  (k:∀xs p ys n,x= .ref p->s.heap.get? p=af ⟨.type "list",ae,.seq ys n,#[]⟩->bM ρ xs ys.toList->ys.size<=1000000->f xs up.fz ⟨fr,σ⟩=af r->C):C:=
 objE e λob h1 e=>bZ e λxs w e=>by
  obtain rfl:=wK w;exact b8 (F.jC hT h1 hx) λp ys n h1 h2 h3 h4=>k xs p ys n h1 h2 h3 h4 e
theorem rP{a b:V}{f:Int->Int->M α}{s:eP}{r:α × eP}{x y:ay}(e:e9 a.ml (λi=>e9 b.ml (f i)) z s=af r)(hx:cA ρ a x)(hy:cA ρ b y)(k:∀i j t u,x= .int i t->y= .int j u->f i j z s=af r->C):C:=
 Ds e hx λi t h1 e=>Ds e hy λj u h2 e=>k i j t u h1 h2 e
theorem Tj{op:yp}{a b:V}{x y:ay}(F:Fits B ρ σ fr up env fl s)(hT:c.aj=B.aj)(e:binC c op a b up.fz ⟨fr,σ⟩=af (v,s₁))(hx:cA ρ a x)(hy:cA ρ b y)
  (q:KV B env fl up ρ s s₁.fr s₁.os v Q):wpAny (model B.pr B.w) A (binaryOp op x y) Q E s:=by
 induction op using tD with
 |Add=>
  refine ef e (λi w e=>?_) (λ_ e=>?_)
  ·refine bZ e λj w' e=>?_;obtain rfl:=CB w;obtain rfl:=CB w';obtain ⟨t,rfl⟩:=hx;obtain ⟨u,rfl⟩:=hy;obtain ⟨rfl,rfl⟩:=aK e;exact add_int (q.toks F ⟨_,rfl⟩)
  refine ef e (λi w e=>?_) (λ_ e=>?_)
  ·refine bZ e λj w' e=>?_;obtain rfl:=nD w;obtain rfl:=nD w';obtain ⟨t,rfl⟩:=hx;obtain ⟨u,rfl⟩:=hy;refine xB e λhz e=>?_;obtain ⟨rfl,rfl⟩:=aK e;exact add_str (λt' tk=>q.toks F ⟨_,rfl⟩) (by show _<=2^24;unfold Str.length;exact qk hz rfl)
  ·refine listE e F hT hx λxs p ys n q'11 g1 g2 g3 e=>?_;subst q'11;refine listE e F hT hy λxs' p' ys' n' q'12 GF O7 Vt e=>?_;subst q'12;refine cT (eQ e) λhz q'9 q'10=>?_;obtain rfl:=q'9;obtain rfl:=q'10;have hl:=(g2.append O7).length;have hz':=iK (show decide _=ao from hz);have hs:(ys++ys').size<=1000000:=by refine lV▸ ?_;simp at hl hz';exact ai (ar hl.symm) hz'
   exact PySem.P.add_list g1 GF (q.alloc F ⟨_,_,rfl,g2.toArray O7,hs⟩) (ai (lV▸hs) (by decide))
 |Sub=>
   refine rP e hx hy λi j t u h1 h2 e=>?_;subst h1;subst h2;obtain ⟨rfl,rfl⟩:=aK e;exact sub_int (q.toks F ⟨_,rfl⟩)
 |Mult=>
   refine rP e hx hy λi j t u h1 h2 e=>?_;subst h1;subst h2;by_cases hz:i.natAbs<=1000000000/\j.natAbs<=1000000000
   ·rw [if_pos hz] at e;obtain ⟨rfl,rfl⟩:=aK e;exact mul_int (q.toks F ⟨_,rfl⟩) (.of_left (EW hz.1))
   ·rw [if_neg hz] at e;exact nn e
 |FloorDiv=>
   refine rP e hx hy λi j t u h1 h2 e=>?_;subst h1;subst h2;refine Ta e λhz e=>?_;obtain ⟨rfl,rfl⟩:=aK e;exact floordiv_int (λh=>hz (.inl h)) (q.toks F ⟨_,rfl⟩) (.inl (tE (Iu (Nat.le_of_not_lt λq=>hz (.inr (.inr q))) rfl)))
 |Mod=>
   refine rP e hx hy λi j t u h1 h2 e=>?_;subst h1;subst h2;by_cases hz:j=0
   ·rw [if_pos hz] at e;exact nn e
   ·rw [if_neg hz] at e;obtain ⟨rfl,rfl⟩:=aK e;exact mod_int' hz (q.toks F ⟨_,rfl⟩)
 |_=>exact nn e
end
section
variable{k:Lv}
theorem lmap{o:Option α}{f:α->β}{b:β}(e:o.map f=af b)(k:∀a,o=af a->f a=b->C):C:=aR (bY.mp e) k
theorem eW{o:Option α}{f:α->Option β}{b:β}(e:o.bind f=af b)(k:∀a,o=af a->f a=af b->C):C:=aR (di.mp e) k
theorem zB{f:V->Option PyData}(hf:∀v d x,f v=af d->cA ρ v x->∃as,Reads h x d as){ds:List PyData}(e:dataL f xs=af ds)(r:bM ρ xs ys):∃as,ReadsAll h ys ds as:=
 r.by (P:=λxs ys=>∀ds,dataL f xs=af ds->∃as,ReadsAll h ys ds as) (λds e=>by (injection e with e;subst e);exact ⟨_,.nil⟩) (λx xs y ys r _ ih ds e=>by
  refine eW e λd h1 e=>?_;refine lmap e λds' h2 q=>?_;subst q;refine lG (hf x d y h1 r) λas g=>?_;exact lG (ih _ h2) λbs g'=>⟨_,.cons g g'⟩) ds e
theorem AI{d:PyData}{x:ay}(e:IA v=af d)(r:cA ρ v x):∃as,Reads h x d as:=by
 induction v using V.casesOn with
 |none=>(injection e with e;subst e);subst r;exact ⟨_,.none⟩
 |bool b=>(injection e with e;subst e);subst r;exact ⟨_,.bool b⟩
 |int i=>(injection e with e;subst e);obtain ⟨t,rfl⟩:=r;exact ⟨_,.int i t⟩
 |str i=>(injection e with e;subst e);obtain ⟨t,rfl⟩:=r;exact ⟨_,.str i t⟩
 |_=>exact nn e
theorem Fits.reads(F:Fits B ρ σ fr up env fl s):∀(n:Nat) (v:V) (d:PyData) (x:ay),ed σ n v=af d->cA ρ v x->∃as,Reads s.heap x d as:=by
 intro n;induction n with
 |zero=>
  exact λv d x e r=>AI e r
 |succ n ih=>
  intro v d x e r;induction q:v.ny using aw with
  |none=>exact AI (q▸e:(match (ae:Option Nat) with|some i=>(σ[i]?).bind (Pf (ed σ n))|ae=>IA v)=af d) r
  |some i=>
   obtain rfl:=qy q;refine eW e λo hx e=>?_;induction o using O.casesOn with
   |list xs=>
    refine lmap e λds h1 q'1=>?_;obtain rfl:=q'1;refine eu (F.ref hx r) λa o q'2 _ g1 r'4=>?_;refine ck r'4 λys m q'3 g2 _=>?_;obtain rfl:=q'2;obtain rfl:=q'3;exact lG (zB ih h1 g2) λas g=>⟨_,.list g1 rfl rfl g⟩
   |tuple xs=>
    refine lmap e λds h1 q'5=>?_;obtain rfl:=q'5;refine eu (F.ref hx r) λa o q'6 _ g1 r'8=>?_;refine ck r'8 λys m q'7 g2 _=>?_;obtain rfl:=q'6;obtain rfl:=q'7;exact lG (zB ih h1 g2) λas g=>⟨_,.tuple g1 rfl rfl g⟩
   |_=>exact nn e
theorem AJ{a b:V}{r:Bool}(e:EJ σ a b=af r):∃da db,ed σ 8 a=af da/\ed σ 8 b=af db/\da.canLay0=ao/\db.canLay0=ao/\da.depth<=20/\r=mQ da db:=by
 refine eW e λda h1 e=>?_;refine eW e λdb h2 e=>?_;by_cases hz:da.canLay0=ao/\db.canLay0=ao/\da.depth<=20
 ·rw [if_pos hz] at e;(injection e with e;subst e);exact ⟨da,db,h1,h2,hz.1,hz.2.1,hz.2.2,rfl⟩
 ·rw [if_neg hz] at e;exact nn e
theorem kE.deep(r:kE A k){a:Nat}(h:a<=20):A.units+min a b<cLine:=by have:=r.units;exact aV (dS (aF _ _) (ai (eU _ _) (qk h rfl))) this
theorem kj{x:ay}(h:isStr v=ao)(r:cA ρ v x):∃y t,v= .str y/\x= .str y t:=by
 induction v using V.casesOn<;>first|(obtain ⟨t,rfl⟩:=r;exact ⟨_,t,rfl,rfl⟩)|injection h
noncomputable def JZ(k:Str):ay->Bool
 | .str t _=>t.cps.toList==k.cps.toList
 |_=>bc
open Classical in
theorem Ac{k:Str}{t:Tok}:JZ k (.str y t)=decide (bp y=bp k):=by
 show (y.cps.toList==k.cps.toList)=_;obtain ⟨⟨y⟩⟩:=y;obtain ⟨⟨k⟩⟩:=k;simp;by_cases h:y=k
 ·subst h;simp
 ·rw [decide_eq_false λq=>h (by injection q with q;injection q with q;injection q)];simpa using h
open Classical in
theorem IV{k:Str}(r:bM ρ xs ys)(h:xs.all isStr=ao):ys.any (JZ k)=OY (.str k) xs:=
 r.by (P:=λxs ys=>xs.all isStr=ao->ys.any (JZ k)=OY (.str k) xs) (λ_=>rfl) (λx xs y ys r rs ih h=>by
  rw [iC,aS] at h;refine gc (kj h.1 r) λz t q'9 q'10=>?_;obtain rfl:=q'9;obtain rfl:=q'10;rw [rB,ih h.2,Ac];show _=if bp z=bp k then ao else OY (.str k) xs
  by_cases hz:bp z=bp k
  ·rw [if_pos hz,decide_eq_true hz];rfl
  ·rw [if_neg hz,decide_eq_false hz];rfl) h
theorem qz{k:Str}{t:Tok}{ys:Array ay}(hr:bM ρ xs ys.toList)(h:xs.all isStr=ao):∀y,y∈ys->MeetsSeq.EqGives y (.str k t) (JZ k y):=by
 have:∀(xs:List V) (ys:List ay),bM ρ xs ys->xs.all isStr=ao->∀y∈ys,∃z u,y= .str z u:=by
  intro xs;induction xs with
  |nil=>intro ys r _ y hy;induction ys using aC with|nil=>cases hy|cons _ _=>obtain ⟨⟩:=r
  |cons x xs ih=>
   intro ys r h y hy;induction ys using aC with
   |nil=>contradiction
   |cons z zs=>
    rw [iC,aS] at h;rcases jJ hy with rfl|hy
    ·refine gc (kj h.1 r.1) λz t _ q'11=>?_;obtain rfl:=q'11;exact ⟨z,t,rfl⟩
    ·exact ih zs r.2 h.2 y hy
 intro y hy;refine An (this xs ys.toList hr h y (vg.mpr hy)) λz u q'12=>?_;obtain rfl:=q'12;exact EE z k u t
theorem cW.find[DecidableEq K]{x:K}{es:List (K × V)}{kvs:List (K × ay)}(h:cW ρ es kvs):n8 ρ (lookE es x) (valueAt kvs x):=
 h.by (P:=λes kvs=>n8 ρ (lookE es x) (valueAt kvs x)) rfl λk v es y kvs r rs ih=>by
  dsimp only [lookE];simp only [valueAt,jx] at ih ⊢;by_cases h:k=x
  ·rw [if_pos h,decide_eq_true h];exact ⟨y,rfl,r⟩
  ·rw [if_neg h,decide_eq_false h];exact ih
theorem cW.look[DecidableEq K]{x:K}{es:List (K × V)}{kvs:List (K × ay)}(h:cW ρ es kvs)(e:lookE es x=af v):∃y,valueAt kvs x=af y/\cA ρ v y:=by
 have:=h.find (x:=x);rw [e] at this;exact this
theorem n8.uI{o:Option V}{p:Option ay}(h:n8 ρ o p):o.isSome=p.isSome:=by
 induction o using aw with
 |none=>subst h;rfl
 |some v=>refine aR h λy q'13 _=>?_;obtain rfl:=q'13;rfl
theorem isStrOf_self{t:Tok}:Cp x (.str x t)=ao:=by simp [Cp]
theorem isInt_self{x:Int}{t:Tok}:vh x (.int x t)=ao:=by simp [vh]
theorem AK{t:Tok}:(strKind B.pr B.w).is x (.str x t)=ao:=isStrOf_self (t:=t)
theorem RU{x:Int}{t:Tok}:(iO B.pr B.w).is x (.int x t)=ao:=isInt_self (t:=t)
theorem Fits.Hc(F:Fits B ρ σ fr up env fl s)(h:ρ[i]? =af a):(a==sysModules)=bc:=by
 obtain ⟨o,ho⟩:=B.VR;have:=F.rep.new a (bN h);induction q:(a==sysModules) using cF with
 |false=>rfl
 |true=>
  have:a=sysModules:=by simpa using q
  subst this
  simp_all
theorem Fits.dictAt{s':eP}(F:Fits B ρ σ fr up env fl s)(hT:c.aj=B.aj)(e:el c v up.fz ⟨fr,σ⟩=af (.dict es,s'))(hv:cA ρ v val):
  ∃a kvs,val= .ref a/\(a==sysModules)=bc/\s.heap.DictOf (strKind B.pr B.w) a kvs/\cW ρ es kvs/\es.length<=1000000:=by
 refine dZ (F.obj hT e hv) λq'14 r'16=>?_;refine eu r'16 λa r h1 h2 q'15 g7=>?_;obtain rfl:=q'14;refine dx q'15 λds n kvs g1 g2 g3 g4 g5 g6=>?_;refine ⟨a,kvs,h1,?_,⟨r,ds,n,h2,g1,g2,g3,g4,g5⟩,g6,g7⟩;induction v using V.casesOn with
 |ref i=>refine aR hv λb hb hv=>?_;rw [h1] at hv;(injection hv with hv;subst hv);exact F.Hc hb
 |top b=>
  subst hv;obtain ⟨⟩:=h1;refine aR (bY.mp (show (c.aj.lookup a).map (λo=>(o,(⟨fr,σ⟩:eP)))=af (.dict es,_) from e)) λx q1 q2=>?_;exact B.Ha a x (hT▸q1)
 |_=>exact nn e
theorem Fits.IW{es:List (Int × V)}{s':eP}(F:Fits B ρ σ fr up env fl s)(hT:c.aj=B.aj)(e:el c v up.fz ⟨fr,σ⟩=af (.qw es,s'))(hv:cA ρ v val):
  ∃a kvs,val= .ref a/\(a==sysModules)=bc/\s.heap.DictOf (iO B.pr B.w) a kvs/\cW ρ es kvs:=by
 refine dZ (F.obj hT e hv) λq'17 r'18=>?_;refine ck r'18 λa r h1 h2 r'19=>?_;refine dx r'19 λds n kvs g1 g2 g3 g4 g5 g6=>?_;obtain rfl:=q'17;refine ⟨a,kvs,h1,?_,⟨r,ds,n,h2,g1,g2,g3,g4,g5⟩,g6⟩;induction v using V.casesOn with
 |ref i=>refine aR hv λb hb hv=>?_;rw [h1] at hv;(injection hv with hv;subst hv);exact F.Hc hb
 |top b=>
  subst hv;obtain ⟨⟩:=h1;refine aR (bY.mp (show (c.aj.lookup a).map (λo=>(o,(⟨fr,σ⟩:eP)))=af (.qw es,_) from e)) λx q1 q2=>?_;exact B.Ha a x (hT▸q1)
 |_=>exact nn e
theorem Fits.Hd{xs:List Str}{s':eP}(F:Fits B ρ σ fr up env fl s)(hT:c.aj=B.aj)(e:el c v up.fz ⟨fr,σ⟩=af (.set xs,s'))(hv:cA ρ v val):
  ∃a,val= .ref a/\s.heap.SetOf (strKind B.pr B.w) a (λk=>decide (k∈xs)) xs.length:=by
 refine dZ (F.obj hT e hv) λq'20 r'21=>?_;refine ck r'21 λa r h1 h2 r'22=>?_;refine dx r'22 λes n t g1 g2 g3 g4 g5 r'23=>?_;refine dZ r'23 λg6 g7=>?_;obtain rfl:=q'20;exact ⟨a,h1,r,es,n,t,h2,g1,g2,g3,g4,g5,g6,g7⟩
theorem Fits.Tn{xs:List Int}{s':eP}(F:Fits B ρ σ fr up env fl s)(hT:c.aj=B.aj)(e:el c v up.fz ⟨fr,σ⟩=af (.B1 xs,s'))(hv:cA ρ v val):
  ∃a,val= .ref a/\s.heap.SetOf (iO B.pr B.w) a (λk=>decide (k∈xs)) xs.length:=by
 refine dZ (F.obj hT e hv) λq'24 r'25=>?_;refine ck r'25 λa r h1 h2 r'26=>?_;refine dx r'26 λes n t g1 g2 g3 g4 g5 r'27=>?_;refine dZ r'27 λg6 g7=>?_;obtain rfl:=q'24;exact ⟨a,h1,r,es,n,t,h2,g1,g2,g3,g4,g5,g6,g7⟩
theorem VT{a b:V}{r:Bool}{x y:ay}(F:Fits B ρ σ fr up env fl s)(hT:c.aj=B.aj)(e:Pg c a b up.fz ⟨fr,σ⟩=af (r,s₁))(hx:cA ρ a x)(hy:cA ρ b y)
  (q:KV B env fl up ρ s s₁.fr s₁.os (.bool r) Q):wpAny (model B.pr B.w) A (compareOp .In x y) Q E s:=by
 refine ef e (λss w e=>?_) (λ_ e=>?_)
 ·refine bZ e λkk w2 e=>?_;obtain rfl:=nD w;obtain rfl:=nD w2;obtain ⟨t,rfl⟩:=hx;obtain ⟨u,rfl⟩:=hy;obtain ⟨rfl,rfl⟩:=aK e;exact in_str (q.same F rfl)
 refine objE e λo h1 e1=>?_;refine ef e1 (λxs w e5=>?_) (λ_ e2=>?_)
 ·obtain rfl:=wK w;by_cases hz:(isStr a&&xs.all isStr)=ao
  ·rw [if_pos hz] at e5;rw [aS] at hz;obtain ⟨rfl,rfl⟩:=aK e5;refine b8 (F.jC hT h1 hy) λp ys n q'28 g1 g2 g3=>?_;obtain rfl:=q'28;refine gc (kj hz.1 hx) λz t q'29 q'30=>?_;obtain rfl:=q'29;obtain rfl:=q'30;refine SeqRoads2.in_list (JZ z) (qz g2 hz.2) g1 ?_;have:ys.any (JZ z)=OY (.str z) xs:=by refine (ze).symm.trans ?_;exact IV g2 hz.2
   refine this▸ ?_;exact q.same F rfl
  ·rw [if_neg hz] at e5;exact nn e5
 refine ef e2 (λxs w e5=>?_) (λ_ e3=>?_)
 ·obtain rfl:=RP w;refine bZ e5 λu w e6=>?_;obtain rfl:=nD w;obtain ⟨rfl,rfl⟩:=aK e6;refine aR (F.Hd hT h1 hy) λp q'31 g=>?_;obtain rfl:=q'31;obtain ⟨t,rfl⟩:=hx;exact wpAny_inSet_of AK rfl g (q.toks F rfl)
 refine ef e3 (λxs w e5=>?_) (λ_ e4=>?_)
 ·obtain rfl:=Tc w;refine bZ e5 λu w e6=>?_;obtain rfl:=CB w;obtain ⟨rfl,rfl⟩:=aK e6;refine aR (F.Tn hT h1 hy) λp q'32 g=>?_;obtain rfl:=q'32;obtain ⟨t,rfl⟩:=hx;exact wpAny_inSet_of RU rfl g (q.toks F rfl)
 ·refine bZ e4 λes w e5=>?_;obtain rfl:=qX w;refine bZ e5 λu w e6=>?_;obtain rfl:=nD w;obtain ⟨rfl,rfl⟩:=aK e6;refine dD (F.dictAt hT h1 hy) λp kvs q'33 g0 g g2 _=>?_;obtain rfl:=q'33;obtain ⟨t,rfl⟩:=hx;refine wpAny_in_of AK g0 g.mapOf ?_;refine (g2.find.uI).symm▸ ?_;exact q.toks F rfl
theorem EX{a b:V}{r:Bool}{x y:ay}(e:isV a b=af r)(hx:cA ρ a x)(hy:cA ρ b y):(∃c d,x= .bool c/\y= .bool d/\r=(c==d))∨(y= .none/\r=(x== .none)):=by
 dsimp only [isV] at e;split at e
 ·subst hx;subst hy;(injection e with e;subst e);exact .inr ⟨rfl,rfl⟩
 ·subst hx;subst hy;(injection e with e;subst e);exact .inl ⟨_,_,rfl,rfl,rfl⟩
 ·rename_i h1
  subst hy;refine .inr ⟨rfl,?_⟩;(injection e with e;subst e);induction a using V.casesOn with
  |none=>exact absurd rfl h1
  |bool b=>subst hx;rfl
  |int i=>obtain ⟨t,rfl⟩:=hx;rfl
  |str i=>obtain ⟨t,rfl⟩:=hx;rfl
  |ref i=>refine aR hx λt _ q'34=>?_;obtain rfl:=q'34;rfl
  |top a=>subst hx;rfl
  |type a=>subst hx;rfl
  |bi a=>subst hx;rfl
 ·exact nn e
end
def Pt(pr:qL)(w:jw)(A:iW)(s:aM)(y x:ay):Prop:=∀(E:ay->aM->Prop) (Q:Bool->aM->Prop),Q ao s->wpAny (model pr w) A (eqBool y x) Q E s
theorem Pt.RV{y x:ay}(h:SeqAt.EqAt A s y x ao):Pt pr w A s y x:=λE Q q=>h pr w E Q q
theorem Pt.of_refs{l b:bj}(hne:l≠b)(h:∀(E:ay->aM->Prop) (Q:ay->aM->Prop),Q (.bool ao) s->wpAny (model pr w) A (richCompare .Eq (.ref l) (.ref b)) Q E s):Pt pr w A s (.ref l) (.ref b):=λE Q hq=>by
 unfold eqBool;refine dX ?_;refine wpAny_ite_split (λhab=>absurd (by have:=eq_of_beq hab;injection this) hne) (λ_=>?_);exact aB (h E _ (wpAny_truthy_bool hq))
theorem J0{l b:bj}{items items2:Array ay}(hl:s.heap.IsTuple l items)(hb:s.heap.IsTuple b items2)(hu:A.units<cLine)(hsz:items.size=items2.size)
  (he:∀j (h1:j<items.size) (h2:j<items2.size),Pt pr w A.in1 s items[j] items2[j]) {E:ay->aM->Prop}{Q:ay->aM->Prop}(h:Q (.bool ao) s):wpAny (model pr w) A (richCompare .Eq (.ref l) (.ref b)) Q E s:=by
 refine cO (id hl) λq'1 ho hc r'2=>?_;refine lG r'2 λn hd=>?_;obtain ⟨cls,dd,data,sl⟩:=q'1;refine cO (id hb) λq'3 ho2 hc2 r'4=>?_;refine lG r'4 λn2 hd2=>?_;obtain ⟨aak,dd2,data2,sl2⟩:=q'3;simp only at hc hd hc2 hd2;subst hc hd hc2 hd2;refine wpAny_richCompare_same_room (op:=.Eq) ⟨_,ho,rfl⟩ ⟨_,ho2,rfl⟩ PySem.F.slot_tuple_eq (wpAny_call_entry PySem.F.slot_tuple_eq ⟨_,ho,rfl⟩ PySem.F.entry_tuple_eq ?_ (PySem.F.args_tuple_eq_2 _ _)) hu;obtain ⟨hp,g,d,tk,os⟩:=s;have f2:=AutoSeq1.sub_tuple_tuple;have hZ:(items.toList.zip items2.toList).length=items.size:=by simp;exact jy (ar hsz)
 wp_walk using wpAny_loadPart' ho,wpAny_loadPart' ho2,wpAny_forIn_list _ (λrest b s'=>b.1=ae/\s'=⟨hp,g,d,tk,os⟩/\∃i,rest=(items.toList.zip items2.toList).drop i) _
 case turn=>
  rintro ⟨y,x⟩ rest b s' ⟨hb',rfl,i,hz⟩;have hlt:i<(items.toList.zip items2.toList).length:=by
   rcases et i (items.toList.zip items2.toList).length with h'|h'
   ·exact h'
   ·rw [fE h'] at hz;injection hz
  have h1:i<items.size:=hZ▸hlt;have h2:i<items2.size:=hsz▸h1;rw [fM hlt] at hz;injection hz with hyx hrest
  have hy:y=items[i]:=by have:=congrArg GA hyx;simpa using this
  have hx:x=items2[i]:=by have:=congrArg Prod.snd hyx;simpa using this
  subst hy hx;refine aB (he i h1 h2 _ _ ?_)
  wp_walk
  exact ⟨rfl,rfl,i+1,hrest⟩
 case fin=>
  rintro ⟨b1,b2⟩ s' ⟨hb',rfl,i,hz⟩;simp only at hb';subst hb'
  wp_walk
  have e:mq kT items.size items2.size= .bool ao:=by simp [mq,hsz]
  refine e▸ ?_;exact ⟨_,rfl,(λx=>by injection x),h⟩
 case h=>
  exact ⟨rfl,rfl,0,rfl⟩
section
variable{k:Lv}
theorem J1{a b:V}{x y:ay}(F:Fits B ρ σ fr up env fl s)(hu:A.units+100<cLine)(e:EJ σ a b=af ao)(hx:cA ρ a x)(hy:cA ρ b y):Pt B.pr B.w A s x y:=by
 refine iA (AJ e) λda db g1 g2 g3 g4 g5 g6=>?_;refine lG (F.reads 8 _ _ _ g1 hx) λas ra=>?_;refine lG (F.reads 8 _ _ _ g2 hy) λbs rb=>?_;have h:=SeqAt.eqAt_reads da db A s x y as bs ra rb g3 g4 (aV (bF (ai (eU _ _) (qk g5 rfl)) _) hu);rw [←g6] at h;exact .RV h
theorem Pu{es':List (Str × V)}{kvs':List (Str × ay)}(g':cW ρ es' kvs')(g:cW ρ es kvs):
  (es.all λp=>p.2.jU.isSome&&decide ((lookE es' p.1).bind V.jU=p.2.jU))=ao->KeqHits A s kvs' kvs ao:=
 g.by (P:=λes kvs=>(es.all λp=>p.2.jU.isSome&&decide ((lookE es' p.1).bind V.jU=p.2.jU))=ao->KeqHits A s kvs' kvs ao) (λ_=>.nil) λk v es y kvs r rs ih h=>by
  rw [iC,aS,aS] at h;obtain ⟨⟨h1,h2⟩,h3⟩:=h;induction q:v.jU using aw with
  |none=>rw [q] at h1;injection h1
  |some z=>
   obtain rfl:=nD q;refine eW (iK h2) λu hu hv=>?_;obtain rfl:=nD hv;refine aR (g'.look hu) λy' hy' r'=>?_;obtain ⟨t,rfl⟩:=r;obtain ⟨t',rfl⟩:=r';have he:SeqAt.EqAt A s (.str z t) (.str z t') ao:=by
    have:=keq_flat (A:=A) (s:=s) (v:=.str z t) (y:=.str z t') (d:=.str z) (e:=.str z) (λh=>.str z t) (λh=>.str z t')
    rwa [show mQ (.str z) (.str z)=ao by simp [mQ]] at this
   exact (KeqHits.hit hy' he (ih h3):KeqHits A s kvs' ((k,.str z t)::kvs) (ao&&ao))
theorem cW.len{es:List (K × V)}{kvs:List (K × ay)}(g:cW ρ es kvs):es.length=kvs.length:=
 g.by (P:=λes kvs=>es.length=kvs.length) rfl λ_ _ _ _ _ _ _ ih=>congrArg (· +1) ih
theorem Ma{a b:V}{x y:ay}(F:Fits B ρ σ fr up env fl s)(hu:A.units+100<cLine)(e:Dg σ a b=af u)(hx:cA ρ a x)(hy:cA ρ b y):Pt B.pr B.w A s x y:=by
 refine eW e λi hi e1=>?_;refine eW e1 λj hj e2=>?_;refine eW e2 λoa ha e3=>?_;refine eW e3 λob hb e4=>?_;refine eW e4 λes h1 e5=>?_;refine eW e5 λes' h2 e6=>?_;obtain rfl:=qy hi;obtain rfl:=qy hj;obtain rfl:=qX h1;obtain rfl:=qX h2;refine Lu e6 λhz _=>?_
 let c:Cx:=⟨B.K,B.aj,λ_ _ _ _=>ae,0,bc,[]⟩
 have hoa:el c (.ref i) up.fz ⟨fr,σ⟩=af (.dict es,⟨fr,σ⟩):=by show (σ[i]?).map _=_;rw [ha];rfl
 have hob:el c (.ref j) up.fz ⟨fr,σ⟩=af (.dict es',⟨fr,σ⟩):=by show (σ[j]?).map _=_;rw [hb];rfl
 refine dD (F.dictAt (c:=c) rfl hoa hx) λp kvs q1 g0 g g2 _=>?_;refine dD (F.dictAt (c:=c) rfl hob hy) λp' kvs' OD g0' g' O7 _=>?_;subst q1;subst OD;by_cases hne:p=p'
 ·subst hne;exact .RV (SeqAt.EqAt.same _)
 ·refine .of_refs hne λE Q hq=>?_;have hl:kvs.length=kvs'.length:=by rw [←g2.len,←O7.len];exact hz.1
  refine keq_eq (r:=true) g0 g0' g g' (jh hu) (λ_=>Pu O7 g2 hz.2) ?_;rw [hl];simpa using hq
theorem J2{a b:V}{x y:ay}(F:Fits B ρ σ fr up env fl s)(hu:A.units+100<cLine)(e:qx σ a b=ao)(hx:cA ρ a x)(hy:cA ρ b y):Pt B.pr B.w A s x y:=by
 rcases (ez _ _).mp e with e|e
 ·exact J1 F hu (iK e) hx hy
 ·refine lG (iD.mp e) λu e=>?_;exact Ma F hu e hx hy
theorem EY(F:Fits B ρ σ fr up env fl s)(hu:A.units+100<cLine):∀{ys:List V}{vs ws:List ay},vD σ xs ys=ao->bM ρ xs vs->bM ρ ys ws->
  vs.length=ws.length/\∀j (h1:j<vs.length) (h2:j<ws.length),Pt B.pr B.w A s vs[j] ws[j]:=by
 induction xs with
 |nil=>
  intro ys vs ws e hv hw;induction ys using aC with
  |nil=>
   obtain rfl:=gy.mp (hv.length.symm.trans rfl);obtain rfl:=gy.mp (hw.length.symm.trans rfl);exact ⟨rfl,λj h1=>absurd h1 (gD _)⟩
  |cons _ _=>injection e
 |cons x xs ih=>
  intro ys vs ws e hv hw;induction ys using aC with
  |nil=>injection e
  |cons y ys=>
   induction vs using aC with
   |nil=>exact hv.elim
   |cons v vs=>
    induction ws using aC with
    |nil=>exact hw.elim
    |cons w ws=>
     have e':=(aS _ _).mp e;obtain ⟨l,h⟩:=ih e'.2 hv.2 hw.2;refine ⟨congrArg (· +1) l,λj h1 h2=>?_⟩;induction j using lE with
     |zero=>exact J2 F hu e'.1 hv.1 hw.1
     |succ j=>exact h j (tG h1) (tG h2)
theorem He{a b:V}{r:Bool}{x y:ay}(R:kE A k)(F:Fits B ρ σ fr up env fl s)(e:z4 σ a b=af r)(hx:cA ρ a x)(hy:cA ρ b y)
  (q:Q (.bool r) s):wpAny (model B.pr B.w) A (compareOp .Eq x y) Q E s:=by
 refine eW e λi hi e1=>?_;refine eW e1 λj hj e2=>?_;refine eW e2 λoa ha e3=>?_;refine eW e3 λob hb e4=>?_;refine eW e4 λxs h1 e5=>?_;refine eW e5 λys h2 e6=>?_;refine Lu e6 λhz e7=>?_;injection e7 with e7;subst e7
 obtain rfl:=qy hi;obtain rfl:=qy hj;obtain rfl:=Aa h1;obtain rfl:=Aa h2;refine eu (F.ref ha hx) λp o q1 _ g1 r1=>?_;refine ck r1 λvs m q2 g2 _=>?_;subst q1;subst q2;refine eu (F.ref hb hy) λp' o' OD _ GF r1'=>?_;refine ck r1' λws m' q2' O7 _=>?_;subst OD;subst q2';have hu:=R.units;have hu1:A.in1.units+100<cLine:=by show A.units+1+100<cLine;exact aV (ai (bF (ak rfl:101<=200) A.units) (cg (aF _ _) 200)) hu
 obtain ⟨l,h⟩:=EY (A:=A.in1) F hu1 hz g2 O7;exact J0 ⟨_,g1,rfl,_,rfl⟩ ⟨_,GF,rfl,_,rfl⟩ (aV (aF _ _) (jh hu)) (by simpa using l) (λj h1 h2=>h j (by simpa using h1) (by simpa using h2)) q
end
section
variable{k:Lv}
theorem Mb{op:CmpOp}{a b:V}{x y:ay}(r:kE A k)(F:Fits B ρ σ fr up env fl s)(hT:c.aj=B.aj)(e:cmpC c op a b up.fz ⟨fr,σ⟩=af (v,s₁))(hx:cA ρ a x)(hy:cA ρ b y)
  (q:KV B env fl up ρ s s₁.fr s₁.os v Q):wpAny (model B.pr B.w) A (compareOp op x y) Q E s:=by
 induction op using PySem.CmpOp.casesOn with
 |Is=>
  obtain ⟨h1,rfl⟩:=jB (z:=up.fz) e;refine lmap h1 λb' h2 q'35=>?_;obtain rfl:=q'35;rcases EX h2 hx hy with ⟨c,d,rfl,rfl,rfl⟩|⟨rfl,rfl⟩
  ·exact is_bool (q.same F rfl)
  ·exact is_none_gen (q.same F rfl)
 |IsNot=>
  obtain ⟨h1,rfl⟩:=jB (z:=up.fz) e;refine lmap h1 λb' h2 q'36=>?_;obtain rfl:=q'36;rcases EX h2 hx hy with ⟨c,d,rfl,rfl,rfl⟩|⟨rfl,rfl⟩
  ·exact isnot_bool (q.same F rfl)
  ·exact isnot_none_gen (q.same F rfl)
 |Eq=>
  refine lmap e λb' h1 h2=>?_;obtain ⟨⟩:=h2;rcases Option.or_eq_some_iff.mp h1 with h1|⟨_,h1⟩
  rotate_left
  ·exact He r F h1 hx hy (q.same F rfl)
  refine iA (AJ h1) λda db g1 g2 g3 g4 g5 q'37=>?_;obtain rfl:=q'37;exact lG (F.reads 8 _ _ _ g1 hx) λas ra=>lG (F.reads 8 _ _ _ g2 hy) λbs rb=>SeqAt.compareEq_reads ra rb g3 g4 (r.deep g5) (q.same F rfl)
 |NotEq=>
  refine lmap e λb' h1 h2=>?_;obtain ⟨⟩:=h2;refine iA (AJ h1) λda db g1 g2 g3 g4 g5 q'38=>?_;obtain rfl:=q'38;exact lG (F.reads 8 _ _ _ g1 hx) λas ra=>lG (F.reads 8 _ _ _ g2 hy) λbs rb=>SeqAt.compareNe_reads ra rb g3 g4 (r.deep g5) (q.same F rfl)
 |Lt=>
  refine rP e hx hy λi j t u h1 h2 e=>?_;subst h1;subst h2;obtain ⟨rfl,rfl⟩:=aK e;exact lt_int (q.same F rfl)
 |In=>
  refine bQ e λb' s_2 h1 e=>?_;obtain ⟨rfl,rfl⟩:=aK e;exact VT F hT h1 hx hy q
 |NotIn=>
  refine objE e λo h1 e=>?_;refine bZ e λxs w e=>?_;obtain rfl:=wK w;refine xB e λhz e=>?_;rw [aS] at hz;obtain ⟨rfl,rfl⟩:=aK e;refine b8 (F.jC hT h1 hy) λp ys n q'28 g1 g2 g3=>?_;obtain rfl:=q'28;refine gc (kj hz.1 hx) λz t q'29 q'30=>?_;obtain rfl:=q'29;obtain rfl:=q'30;refine SeqRoads2.notIn_list (JZ z) (qz g2 hz.2) g1 ?_;have:ys.any (JZ z)=OY (.str z) xs:=by refine (ze).symm.trans ?_;exact IV g2 hz.2
  refine this▸ ?_;exact q.same F rfl
 |_=>exact nn e
theorem AL{b:Bool}{x:ay}{Q:Bool->aM->Prop}(F:Fits B ρ σ fr up env fl s)(hT:c.aj=B.aj)(e:cV c v up.fz ⟨fr,σ⟩=af (b,s₁))(hx:cA ρ v x)
  (q:KA B env fl up ρ s s₁.fr s₁.os b Q):wpAny (model B.pr B.w) A (truthy x) Q E s:=by
 refine ef e (λu w e1=>?_) (λ_ e1=>?_)
 ·obtain ⟨rfl,rfl⟩:=aK e1;refine vQ (Te w) (λh=>?_) λh=>?_
  ·obtain ⟨rfl,rfl⟩:=h;subst hx;exact truthy_none (q.same F)
  ·subst h;subst hx;exact wpAny_truthy_bool (q.same F)
 ·refine objE e1 λo h1 e2=>?_;refine bZ e2 λxs w e3=>?_;obtain rfl:=wK w;obtain ⟨rfl,rfl⟩:=aK e3;refine b8 (F.jC hT h1 hx) λp ys n q'42 g1 g2 g3=>?_;obtain rfl:=q'42;refine wpAny_truthy_list ⟨_,g1,rfl,n,rfl⟩ (SK g3 (by decide)) ?_;have:ys.isEmpty=xs.isEmpty:=by
   have:=g2.length;induction xs using aC with
   |nil=>simpa [Cq] using this.symm
   |cons x xs=>induction q:ys.isEmpty using cF with
    |false=>rfl
    |true=>simp [yr] at q;subst q;trivial
  refine this▸ ?_;exact q.toks F
end
section
variable{k:Lv}
theorem zC{k:Int}(h:qV k n=af j):k.natAbs<=1000000000/\oV k n=af j:=by
 unfold qV at h;split at h
 ·rename_i hz;exact ⟨hz,h⟩
 ·exact nn h
theorem B5{k:Int}(h:oV k n=af j):(0<=k/\j=k.toNat)∨(k<0/\ -(n:Int)<=k/\j=(k+n).toNat):=by
 unfold oV at h;by_cases hk:k<0
 ·simp only [hk,if_true] at h;split at h
  ·rename_i hz
   simp at hz;(injection h with h;subst h);exact .inr ⟨hk,Int.le_of_sub_nonneg (Int.sub_neg k n▸hz.1),rfl⟩
  ·exact nn h
 ·simp only [hk,if_false] at h;split at h
  ·(injection h with h;subst h);exact .inl ⟨mP.mp hk,rfl⟩
  ·exact nn h
theorem Pw{i:V}{x y:ay}(F:Fits B ρ σ fr up env fl s)(hT:c.aj=B.aj)(e:d0 c o i up.fz ⟨fr,σ⟩=af (v,s₁))(hx:cA ρ o x)(hy:cA ρ i y)
  (q:KV B env fl up ρ s s₁.fr s₁.os v Q):zQ (model B.pr B.w) A x y Q E s:=by
 unfold d0 at e;refine ef e (λss w e=>?_) (λ_ e=>?_)
 ·refine bZ e λkk w2 e3=>?_;obtain rfl:=nD w;obtain rfl:=CB w2;obtain ⟨t,rfl⟩:=hx;obtain ⟨u,rfl⟩:=hy;obtain ⟨h2,rfl⟩:=jB e3;refine eW h2 λj hj hv=>?_;refine lmap hv λz h1 q'1=>?_;obtain rfl:=q'1;obtain ⟨hz,hj⟩:=zC hj;refine ⟨"str",_,slot_str_getitem.lookup,typeIs_str ..,?_⟩;refine getItem_str (c:=z) (by simp;exact ⟨nbq hz (by decide),YN hz (by decide)⟩) ?_ (q.toks F ⟨_,rfl⟩);rw [show oV _ (Str.length _)=_ from hj];exact h1
 refine objE e λob h1 e1=>?_;refine ef e1 (λxs w e2=>?_) (λ_ e2=>?_)
 ·refine bZ e2 λkk w2 e3=>?_;obtain rfl:=CB w2;obtain ⟨h2,rfl⟩:=jB e3;refine aR (di.mp h2) λj hj hv=>?_;obtain ⟨hz,hj⟩:=zC hj;obtain ⟨u,rfl⟩:=hy;refine vQ (Ab w) (λw3=>?_) λw3=>?_
  ·subst w3;refine b8 (F.jC hT h1 hx) λp ys n q'2 g1 g2 g3=>?_;obtain rfl:=q'2;refine aR (g2.get hv) λw hw So=>?_;have hlen:=g2.length.trans cj;refine ⟨"list",_,slot_list_getitem.lookup,⟨_,g1,rfl⟩,?_⟩;rw [cS] at hw;rcases B5 hj with ⟨h0,rfl⟩|⟨h0,h3,rfl⟩
   ·exact wpAny_getItem_list ⟨_,g1,rfl,n,rfl⟩ h0 (YN hz (by decide)) hw (q.same F So)
   ·refine wpAny_getItem_list_neg ⟨_,g1,rfl,n,rfl⟩ h0 (hlen▸h3) (je (Int.neg_le_neg (tH (SK (ai (ar hlen) g3) (by decide)))) h3) (by refine (hlen).symm▸ ?_;exact hw) (q.same F So)
  ·subst w3;refine b8 (F.mH hT h1 hx) λp ys n q'3 g1 g2 g3=>?_;obtain rfl:=q'3;refine aR (g2.get hv) λw hw So=>?_;have hlen:=g2.length.trans cj;rw [cS] at hw;refine ⟨"tuple",_,slot_tuple_getitem.lookup,⟨_,g1,rfl⟩,?_⟩;exact P.getItem_tuple g1 (nbq hz (by decide)) (YN hz (by decide)) (by refine (hlen).symm▸ ?_;exact hj) hw (q.same F So)
 ·refine bZ e2 λes w e3=>?_;obtain rfl:=qX w;refine bZ e3 λkk w2 e4=>?_;obtain rfl:=nD w2;obtain ⟨h2,rfl⟩:=jB e4;refine dD (F.dictAt hT h1 hx) λp kvs q'4 g0 g g2 _=>?_;obtain rfl:=q'4;obtain ⟨u,rfl⟩:=hy;refine aR (g2.look h2) λw hw So=>?_;refine ⟨"dict",_,slot_dict_getitem.lookup,g.typeIs,?_⟩;exact wpAny_getItem_of AK g.mapOf hw (q.toks F So)
theorem mI{x:ay}{o:Option Int}(h:Cz v=af o)(r:cA ρ v x):IsPart x o:=by
 obtain ⟨⟩:=v<;>first|(cases h;cases r;exact .none)|(cases h;obtain ⟨t,rfl⟩:=r;exact .int _ t)|exact nn h
theorem Mc{l u st:V}{x xl xu xs':ay}(F:Fits B ρ σ fr up env fl s)(hT:c.aj=B.aj)(e:lJ c o l u st up.fz ⟨fr,σ⟩=af (v,s₁))(hx:cA ρ o x)
  (hl:cA ρ l xl) (hu:cA ρ u xu) (hst:cA ρ st xs') (q:KV B env fl up ρ s s₁.fr s₁.os v Q):
  zQ (model B.pr B.w) A x (.ref s.heap.objs.size) Q E {s with heap:=s.heap.push {cls:=.type "slice",data:=.fields #[xl,xu,xs']}}:=by
 unfold lJ at e;refine gc (bind_some e) λob s_2 h1 e=>?_;obtain rfl:=CE h1;refine bZ e λxs w e=>?_;obtain rfl:=wK w;refine gc (bind_some e) λzs s_2 h2 e=>?_;obtain ⟨h2',rfl⟩:=jB h2;refine cT (eQ e) λhz0 q'5 q'6=>?_;obtain rfl:=q'5;obtain rfl:=q'6;refine b8 (F.jC hT h1 hx) λp ys n q'7 g1 g2 g3=>?_;obtain rfl:=q'7;obtain ⟨st1,F1⟩:=F.hidden {cls:=.type "slice",data:=.fields #[xl,xu,xs']} s.toks;have GF:=aP {cls:=.type "slice",data:=.fields #[xl,xu,xs']} g1;have hlen:=g2.length.trans cj;have hsl:=Ir s.heap xl xu xs';have q':KV B env fl up ρ {s with heap:=s.heap.push {cls:=.type "slice",data:=.fields #[xl,xu,xs']}} fr (σ++ [.list zs]) (.ref σ.length) Q:=λρ' s' x h1 h2 h3=>q ρ' s' x (st1.trans h1) h2 h3;refine ⟨"list",_,slot_list_getitem.lookup,⟨_,GF,rfl⟩,?_⟩;have fits:ys.size<=sizeLine:=by show _<=2^24;exact qk g3 rfl
 refine eW h2' λlo k1 h2=>?_;refine eW h2 λhi k2 h2=>?_;refine eW h2 λsp k3 h2=>?_;by_cases hz:sp=ae
 ·rw [if_pos hz] at h2;subst hz;injection h2 with h2;subst h2
  refine rC ⟨_,GF,rfl,n,rfl⟩ hsl (mI k1 hl) (mI k2 hu) (mI k3 hst) (by intro h;exact nn h) ?_ fits;refine q'.alloc F1 ⟨_,_,rfl,?_,?_⟩
  ·rw [slicePick_plain,hlen];exact (g2.drop _).take _
  ·exact ai (slicePick_size_le ..) g3
 ·rw [if_neg hz] at h2;refine Lu h2 λhk h2=>?_;refine cT hk λq'1 q'2 q'3=>?_;obtain rfl:=q'1;obtain rfl:=q'2;obtain rfl:=q'3;injection h2 with h2;subst h2
  refine rC ⟨_,GF,rfl,n,rfl⟩ hsl (mI k1 hl) (mI k2 hu) (mI k3 hst) (by intro h;contradiction) ?_ fits;refine q'.alloc F1 ⟨_,_,rfl,?_,?_⟩
  ·rw [krv_pick];exact g2.reverse
  ·exact ai (slicePick_size_le ..) g3
end
section
variable{k:Lv}
theorem cW.length{es:List (K × V)}{kvs:List (K × ay)}(h:cW ρ es kvs):es.length=kvs.length:=
 h.by (P:=λes kvs=>es.length=kvs.length) rfl λ_ _ _ _ _ _ _ h=>congrArg (· +1) h
theorem cW.any(h:cW ρ es kvs):es.any (λe=>e.1=x)=kvs.any (λe=>e.1=x):=
 h.by (P:=λes kvs=>es.any (λe=>e.1=x)=kvs.any (λe=>e.1=x)) rfl λa _ _ _ _ _ _ ih=>congrArg (decide (a=x)|| ·) ih
theorem cW.map{y:ay}(hv:cA ρ v y)(h:cW ρ es kvs):cW ρ (es.map λe=>if e.1=x then (e.1,v) else e) (kvs.map λe=>if e.1=x then (e.1,y) else e):=
 h.by (P:=λes kvs=>cW ρ (es.map λe=>if e.1=x then (e.1,v) else e) (kvs.map λe=>if e.1=x then (e.1,y) else e)) trivial λa v0 es w0 kvs r0 r ih=>by
  show cW ρ ((if a=x then (a,v) else (a,v0))::_) ((if a=x then (a,y) else (a,w0))::_);by_cases h:a=x
  ·rw [if_pos h,if_pos h];exact ⟨⟨rfl,hv⟩,ih⟩
  ·rw [if_neg h,if_neg h];exact ⟨⟨rfl,r0⟩,ih⟩
theorem cW.snoc{y:ay}(hv:cA ρ v y)(h:cW ρ es kvs):cW ρ (es++ [(x,v)]) (kvs++ [(x,y)]):=
 h.by (P:=λes kvs=>cW ρ (es++ [(x,v)]) (kvs++ [(x,y)])) (show cW ρ [(x,v)] [(x,y)] from ⟨⟨rfl,hv⟩,trivial⟩) λa v0 es w0 kvs r _ ih=>(show cW ρ ((a,v0)::(es++ [(x,v)])) ((a,w0)::(kvs++ [(x,y)])) from ⟨⟨rfl,r⟩,ih⟩)
theorem cW.stored{y:ay}(h:cW ρ es kvs)(hv:cA ρ v y):cW ρ (jY es x v) (stored kvs x y):=by
 unfold jY PySem.stored;rw [h.any];split
 ·exact h.map hv
 ·exact h.snoc hv
theorem cW.without(h:cW ρ es kvs):cW ρ (B3 es x) (without kvs x):=
 h.by (P:=λes kvs=>cW ρ (B3 es x) (PySem.without kvs x)) trivial λa _ es _ kvs r0 r ih=>by
  unfold B3 PySem.without at ih ⊢;rw [ku,ku];by_cases h:a=x
  ·simp only [h,ne_eq,not_true_eq_false,decide_false,dw,if_false];exact ih
  ·simp only [h,ne_eq,not_false_eq_true,decide_true,if_true];exact ⟨⟨rfl,r0⟩,ih⟩
theorem Fits.dictSet{es':List (Str × V)}{kvs':List (Str × ay)}(F:Fits B ρ σ fr up env fl s)(hf':i∉up.fz)(hi:ρ[i]? =af a)(hs:il a s.heap h')
  (hd:h'.DictOf (strKind B.pr B.w) a kvs') (hk:cW ρ es' kvs') (hz:es'.length<=1000000):
  Step ρ (wr up env) s ρ {s with heap:=h',toks:=tk}/\Fits B ρ (σ.set i (.dict es')) fr up env fl {s with heap:=h',toks:=tk}:=by
 refine dx hd λo ds n g1 g2 g3 g4 g5 g6=>?_;exact F.setAt (o:=.dict es') hf' hi hs g1 ⟨⟨ds,n,kvs',g2,g3,g4,g5,g6,hk⟩,hz⟩ tk
theorem qY{x:ay}(hv:cA ρ (.ref i) x)(e:x= .ref a):ρ[i]? =af a:=by
 refine aR hv λb hb h=>?_;rw [e] at h;(injection h with h;subst h);exact hb
theorem Hf{i:V}{x y z:ay}{Q:Unit->aM->Prop}(F:Fits B ρ σ fr up env fl s)(hT:c.aj=B.aj)(e:nA c o i v up.fz ⟨fr,σ⟩=af (u,s₁))(hx:cA ρ o x)(hy:cA ρ i y)(hz:cA ρ v z)
  (q:KA B env fl up ρ s s₁.fr s₁.os () Q):wpAny (model B.pr B.w) A (setItem x y z) Q E s:=by
 refine objE e λob h1 e=>?_;refine bZ e λes w e1=>?_;obtain rfl:=qX w;refine bZ e1 λd w e2=>?_;obtain rfl:=qy w;refine bZ e2 λkk w e3=>?_;obtain rfl:=nD w;refine iz (i5 e3) λh2 h3 Es q'1=>?_;obtain rfl:=q'1;refine dD (F.dictAt hT h1 hx) λp kvs qK g0 g g2 g3=>?_;have hi:=qY hx qK;subst qK;obtain ⟨t,rfl⟩:=hy;have hl:=g2.length;refine wpAny_setItem_pairs AK g (λh' d1 d2=>?_) (by show _<=2^24;exact Pa hl g3 rfl);obtain ⟨a1,a2⟩:=F.dictSet (tk:=s.toks+1) Es hi d2 d1 (g2.stored hz) (iK (show decide _=ao from h3));exact q _ _ a1 a2
theorem Hg{i:V}{x y:ay}{Q:Unit->aM->Prop}(F:Fits B ρ σ fr up env fl s)(hT:c.aj=B.aj)(e:xy c o i up.fz ⟨fr,σ⟩=af (u,s₁))(hx:cA ρ o x)(hy:cA ρ i y)
  (q:KA B env fl up ρ s s₁.fr s₁.os () Q):wpAny (model B.pr B.w) A (delItem x y) Q E s:=by
 refine objE e λob h1 e=>?_;refine bZ e λes w e1=>?_;obtain rfl:=qX w;refine bZ e1 λd w e2=>?_;obtain rfl:=qy w;refine bZ e2 λkk w e3=>?_;obtain rfl:=nD w;by_cases hsome:(lookE es kk).isSome=ao
 ·rw [if_pos hsome] at e3;refine iz (i5 e3) λh2 h3 Es q'2=>?_;obtain rfl:=q'2;refine dD (F.dictAt hT h1 hx) λp kvs qK g0 g g2 g3=>?_;have hi:=qY hx qK;subst qK;obtain ⟨t,rfl⟩:=hy;have hl:=g2.length;have hv:=g2.find.uI.symm.trans hsome;refine wpAny_delItem_slot g.typeIs (by decide+kernel) qp ?_;refine oF qp g.typeIs PySem.F.entry_dict_delitem (PySem.F.args_dict_delitem_2 _ _) (meets_dict_delitem_pairs (strKind B.pr B.w) _ AK) ⟨kvs,g,by show _<=2^24;exact Pa hl g3 rfl,hv,λh' d1 d2=>?_⟩;obtain ⟨a1,a2⟩:=F.dictSet (tk:=s.toks+1) Es hi d2 d1 g2.without (iK (show decide _=ao from h3));exact q _ _ a1 a2
 ·rw [if_neg hsome] at e3;exact nn e3
theorem EZ{ds:Array DictEntry}:tB ds x=(ds.toList.find? λe=>e.key.isStr x).map (·.val):=by
 unfold tB findBy;exact congrArg _ (Array.find?_toList).symm
theorem yL{o:Obj}{ds:Array DictEntry}(hd:o.data= .dict ds n)(hk:StrKeys ds):lookIn x o=af (tB ds x):=by
 unfold lookIn;rw [hd,EZ];dsimp only;induction q:ds.toList.find? λe=>e.key.isStr x using aw with
 |some e=>rfl
 |none=>
  dsimp only;rw [if_neg]
  ·rfl
  ·intro h;refine aR (iX.mp h) λe he h=>?_;refine An (hk e (vg.mp he)) λm t hm=>?_;simp [DictEntry.refKey,hm] at h
theorem mJ{K:r8}{C:bj}(h:tT K C=ao):j8 K (.ref C) "__getattribute__" =af (af (.builtin "object.__getattribute__"))/\j8 K (.ref C) "__getattr__" =af ae/\
  j8 K (.ref C) "__setattr__" =af (af (.builtin "object.__setattr__"))/\plainOver K C=ao/\∃cd,clsIn K C=af cd:=by
 unfold tT at h;simp only [aS,beq_iff_eq] at h;obtain ⟨⟨⟨⟨h1,h2⟩,h3⟩,h4⟩,h5⟩:=h;exact ⟨h1,h2,h3,h4,iD.mp h5⟩
theorem xD{x:ay}(h:EM v=ao)(r:cA ρ v x):handedIn x=ao:=by
 induction v using V.casesOn with
 |bi i=>injection h
 |none=>subst r;rfl
 |bool b=>subst r;rfl
 |int i=>obtain ⟨t,rfl⟩:=r;rfl
 |str i=>obtain ⟨t,rfl⟩:=r;rfl
 |ref i=>refine aR r λa _ q'3=>?_;obtain rfl:=q'3;rfl
 |top a=>subst r;rfl
 |type n=>subst r;rfl
theorem Fits.Dt{C:bj}{s' s'':eP}(F:Fits B ρ σ fr up env fl s)(hT:c.aj=B.aj)(e:el c v up.fz ⟨fr,σ⟩=af (.inst C d,s'))(hv:cA ρ v val)
  (e':el c (.ref d) up.fz ⟨fr,σ⟩=af (.ns es,s'')):∃x a o ds n,val= .ref x/\ρ[d]? =af a/\s.heap.get? a=af o/\o.data= .dict ds n/\StrKeys ds/\UniqKeys ds/\(∀y,n8 ρ (lookE es y) (tB ds y))/\
   InstAt s.heap x ⟨.ref C,af a,.plain,#[]⟩ C (af o):=by
 refine dZ (F.obj hT e hv) λ_ r'5=>?_;refine ck r'5 λx r h1 h2 r'6=>?_;refine aR r'6 λa h3 q'4=>?_;obtain rfl:=q'4;obtain ⟨e',_⟩:=uH e';refine ck (F.rep.obj d _ e') λb o g1 g2 r'7=>?_;refine eu r'7 λds n g3 g4 JH g5=>?_;rw [h3] at g1;(injection g1 with g1;subst g1);exact ⟨x,a,o,ds,n,h1,h3,g2,g3,g4,JH,g5,h2,rfl,rfl,g2⟩
theorem Fits.IX{C:bj}{vs:List (Option V)}{s' s'':eP}(F:Fits B ρ σ fr up env fl s)(hT:c.aj=B.aj)(e:el c v up.fz ⟨fr,σ⟩=af (.slots C d vs,s'))(hv:cA ρ v val)
  (e':el c (.ref d) up.fz ⟨fr,σ⟩=af (.ns es,s'')):∃x a o sl,val= .ref x/\ρ[d]? =af a/\sl.size<=vs.length/\(∀k:Nat,n8 ρ (vs[k]?).join (sl[k]?).join)/\
   InstAt s.heap x ⟨.ref C,af a,.plain,sl⟩ C (af o):=by
 refine dZ (F.obj hT e hv) λ_ r'9=>?_;refine ck r'9 λx r h1 h2 r'10=>?_;refine eu r'10 λa sl h3 q'8 h4 h5=>?_;obtain rfl:=q'8;obtain ⟨e',_⟩:=uH e';refine ck (F.rep.obj d _ e') λb o g1 g2 r'11=>?_;refine eu r'11 λds n g3 g4 JH g5=>?_;rw [h3] at g1;(injection g1 with g1;subst g1);exact ⟨x,a,o,sl,h1,h3,h4,h5,h2,rfl,rfl,g2⟩
theorem findObj_own{K:r8}{C:bj}{cd:oU}{o:Obj}{a:Str}{v:ay}(hc:clsIn K C=af cd)(hd:cd.hasDict=ao)(hf:j8 K (.ref C) a=af ae)(hl:lookIn a o=af (af v)):
  findObj K C (af o) a=af (.value v):=by
 unfold findObj;rw [hc,ct,hf,ct];dsimp only [ct];delta W.ownOf;refine (if_pos hd)▸ ?_;dsimp only;rw [hl,ct]
theorem zD{K:r8}{C p:bj}{a:Str}(h:sS K C a=af (p,i)):j8 K (.ref C) a=af (af (.ref p))/\r9 K (.ref p) "__get__" =af (af (.builtin "member_descriptor.__get__"))/\yq K (.ref p)=af ao/\
  BL K (.ref p)=af (.type "member_descriptor")/\slotIn K p C=af i:=by
 refine eW h λp' hp h=>?_;by_cases hz:(r9 K (.ref p') "__get__" ==af (af (.builtin "member_descriptor.__get__"))&&yq K (.ref p')==af ao&&BL K (.ref p')==af (.type "member_descriptor"))=ao
 ·rw [if_pos hz] at h;simp only [aS,beq_iff_eq] at hz;refine lmap h λj h1 h2=>?_;obtain ⟨⟩:=h2;exact ⟨IU hp,hz.1.1,hz.1.2,hz.2,h1⟩
 ·rw [if_neg hz] at h;exact nn h
theorem Du{K:r8}{C p:bj}{cd:oU}{o:Option Obj}{a:Str}(hc:clsIn K C=af cd)(hf:j8 K (.ref C) a=af (af (.ref p)))(h1:r9 K (.ref p) "__get__" =af (af (.builtin "member_descriptor.__get__")))(h2:yq K (.ref p)=af ao):
  findObj K C o a=af (.bind (.builtin "member_descriptor.__get__") (.ref p)):=by
 unfold findObj;rw [hc,ct,hf,ct];dsimp only;rw [h1,ct];dsimp only;rw [h2,ct]
end
section
variable{g:Array nM}{d:Drawn}{t:Nat}{os:gJ}{vs:Array ay}
theorem sV:Slot "list_iterator" "__getattribute__" "object.__getattribute__" :=
 Slot.of (T:= "list_iterator") (name:= "__getattribute__") (owner:= "object") (n:= "__getattribute__") (by rw [jz,fN];kernel_rfl) (by decide+kernel) (by decide+kernel) (by decide+kernel)
  (.inl (by decide+kernel)) (by rw [iY];kernel_rfl)
theorem uJ:Slot "wrapper_descriptor" "__get__" "wrapper_descriptor.__get__" :=
 Slot.of (T:= "wrapper_descriptor") (name:= "__get__") (owner:= "wrapper_descriptor") (n:= "__get__") (by rw [jz,fN];kernel_rfl) (by decide+kernel) (by decide+kernel) (by decide+kernel)
  (.inl (by decide+kernel)) (by rw [iY];kernel_rfl)
theorem Dv:entryFor table "wrapper_descriptor.__get__" =af Builtin.«wrapper_descriptor.__get__»:=entryFor_of_tree (by kernel_rfl)
theorem E0(a b c:ay):argsOk "wrapper_descriptor.__get__" ⟨[a,b,c],[]⟩:=by unfold argsOk;kernel_rfl
theorem J3:entryFor table "object.__getattribute__" =af Builtin.«object.__getattribute__»:=entryFor_of_tree (by kernel_rfl)
theorem Md(a b:ay):argsOk "object.__getattribute__" ⟨[a,b],[]⟩:=by unfold argsOk;kernel_rfl
theorem sW:typeOf (.builtin "list_iterator.__next__")=aA (.type "wrapper_descriptor"):=by show builtinType _=_;refine builtinType_eq_fast▸ ?_;kernel_rfl
theorem Dw:tw (.type "list_iterator") "__next__" =aA (af (.builtin "list_iterator.__next__")):=by rw [jz,fN];kernel_rfl
theorem Dx:tw (.type "list_iterator") "__getattr__" =aA ae:=by rw [jz,fN];kernel_rfl
theorem E1:tw (.type "wrapper_descriptor") "__set__" =aA ae:=by rw [jz,fN];kernel_rfl
theorem AM:tw (.type "wrapper_descriptor") "__delete__" =aA ae:=by rw [jz,fN];kernel_rfl
theorem E2:r7 (.type "list_iterator") (.type "list_iterator")=aA ao:=by rw [iY];kernel_rfl
theorem B6:(".".intercalate ("list_iterator.__next__".cutAt '.').dropLast)= "list_iterator" :=by
 have e0: "list_iterator.__next__".cutAt '.' = ["list_iterator","__next__"]:=by first|rfl|decide+kernel
 refine e0▸ ?_;decide+kernel
noncomputable abbrev sX(a:bj):Obj:=⟨.type "method-wrapper",ae,.fields #[.builtin "list_iterator.__next__",.ref a],#[]⟩
theorem Mf(hx:h.get? a=af ⟨.type "list_iterator",ae,.fields vs,#[]⟩)(hq:R (.ok (.ret (.ref h.objs.size))) ⟨h.push (sX a),g,d,t,os⟩):
  gK (model prog w) A (.call (.builtin "wrapper_descriptor.__get__") ⟨[.builtin "list_iterator.__next__",.ref a,.type "list_iterator"],[]⟩) R ⟨h,g,d,t,os⟩:=by
 have hT5:(⟨h,g,d,t,os⟩:aM).TypeIs (.builtin "list_iterator.__next__") "wrapper_descriptor" :=sW;have hT:(⟨h,g,d,t,os⟩:aM).TypeIs (.ref a) "list_iterator" :=⟨_,hx,rfl⟩;have f8:r7 (.type "list_iterator") (.type (".".intercalate ("list_iterator.__next__".cutAt '.').dropLast))=aA ao:=by rw [B6];exact E2
 refine nN uJ.plain Dv (uJ.check _ _ _ _ _ _ _ _ hT5 (E0 _ _ _) ?_);unfold Builtin.«wrapper_descriptor.__get__»
 repeat (any_goals (first|assumption|wp_step))
theorem Hh{tk:Tok}{Q:Fin->aM->Prop}(hx:h.get? a=af ⟨.type "list_iterator",ae,.fields vs,#[]⟩)(hq:Q (.done (.ret (.ref h.objs.size))) ⟨h.push (sX a),g,d,t,os⟩):
  wpAny (model prog w) A (Builtin.«object.__getattribute__» ⟨[.ref a,.str "__next__" tk],[]⟩) Q E ⟨h,g,d,t,os⟩:=by
 have hT:(⟨h,g,d,t,os⟩:aM).TypeIs (.ref a) "list_iterator" :=⟨_,hx,rfl⟩;have hT5:(⟨h,g,d,t,os⟩:aM).TypeIs (.builtin "list_iterator.__next__") "wrapper_descriptor" :=sW;have f4:=Dw;have f5:=sW;have f6:=uJ.lookup;have f7:=E1;have f9:=AM
 repeat (any_goals (first|assumption|wp_step))
 refine Mf hx ?_
 repeat (any_goals (first|assumption|wp_step))
theorem J4{tk:Tok}(hx:h.get? a=af ⟨.type "list_iterator",ae,.fields vs,#[]⟩)(hq:R (.ok (.ret (.ref h.objs.size))) ⟨h.push (sX a),g,d,t,os⟩):
  gK (model prog w) A (.call (.builtin "object.__getattribute__") ⟨[.ref a,.str "__next__" tk],[]⟩) R ⟨h,g,d,t,os⟩:=
 nN sV.plain J3 (sV.check _ _ _ _ _ _ _ _ (show (⟨h,g,d,t,os⟩:aM).TypeIs (.ref a) "list_iterator" from ⟨_,hx,rfl⟩) (Md _ _) (Hh hx hq))
theorem J5{expr:Bool}(hx:h.get? a=af ⟨.type "list_iterator",ae,.fields vs,#[]⟩)(hq:Q (.ref h.objs.size) ⟨h.push (sX a),g,d,t+1,os⟩):
  wpAny (model prog w) A (oE (.ref a) "__next__" expr) Q E ⟨h,g,d,t,os⟩:=by
 have hT:(⟨h,g,d,t+1,os⟩:aM).TypeIs (.ref a) "list_iterator" :=⟨_,hx,rfl⟩;have f2:=sV.lookup;have f3:=sV.bind (.ref a);have f4:=Dx;have hx0:(expr&&onTheHeap (rA "object.__getattribute__"))=bc:=by obtain ⟨⟩:=expr<;>rfl
 unfold oE
 repeat (any_goals (first|assumption|wp_step))
 refine J4 hx ?_;exact bG hq
end
section
variable{k:Lv}
theorem AN{k:Str}:lookE (jY es k v) y=if y=k then af v else lookE es y:=by
 unfold jY;have app:∀es:List (Str × V),es.any (λe=>e.1=k)=bc->lookE (es++ [(k,v)]) y=if y=k then af v else lookE es y:=by
  intro es;induction es with
  |nil=>
   intro _;simp only [ey,lookE];by_cases h:y=k
   ·subst h;rfl
   ·rw [if_neg (λe=>h e.symm),if_neg h]
  |cons e r ih=>
   intro h;obtain ⟨a,b⟩:=e;rw [rB,Bool.or_eq_false_iff] at h;have ha:¬a=k:=by simpa using h.1
   simp only [fT,lookE];by_cases hy:a=y
   ·subst hy;rw [if_pos rfl,if_pos rfl,if_neg ha]
   ·rw [if_neg hy,if_neg hy,ih h.2]
 have mp:∀es:List (Str × V),es.any (λe=>e.1=k)=ao->lookE (es.map λe=>if e.1=k then (e.1,v) else e) y=if y=k then af v else lookE es y:=by
  intro es;induction es with
  |nil=>intro h;injection h
  |cons e r ih=>
   intro h;obtain ⟨a,b⟩:=e;refine bx▸ ?_;by_cases ha:a=k
   ·subst ha;simp only [if_true,lookE];by_cases hy:a=y
    ·subst hy;rw [if_pos rfl,if_pos rfl]
    ·rw [if_neg hy,if_neg (λe=>hy e.symm),if_neg hy];induction q:r.any (λe=>e.1=a) using cF with
     |true=>(refine (ih q).trans ?_;exact (if_neg (λe=>hy e.symm)))
     |false=>
      congr 1;refine (d7 λe he=>?_).trans (List.map_id r);rw [if_neg]
      ·rfl
      ·intro h';have:=yt.mp q e he;simp [h'] at this
   ·simp only [ha,if_false,lookE];rw [rB] at h;have:r.any (λe=>e.1=k)=ao:=by simpa [ha] using h
    by_cases hy:a=y
    ·subst hy;rw [if_pos rfl,if_pos rfl,if_neg ha]
    ·rw [if_neg hy,if_neg hy,ih this]
 induction q:es.any (λe=>e.1=k) using cF with
 |true=>refine (if_pos rfl)▸ ?_;exact mp es q
 |false=>rw [if_neg (by decide)];exact app es q
theorem Hj{a:Str}{x:ay}{C:bj}{d:Nat}(F:Fits B ρ σ fr up env fl s)(H:eh c B)(h1:el c o up.fz ⟨fr,σ⟩=af (.inst C d,⟨fr,σ⟩))(e2:IB c a C d up.fz ⟨fr,σ⟩=af (v,s₁))(hx:cA ρ o x)
  (q:KV B env fl up ρ s s₁.fr s₁.os v Q):wpAny (model B.pr B.w) A (oE x a ao) Q E s:=by
 have hT:=H.aj;refine objE e2 λod h2 e3=>?_;refine bZ e3 λes w e4=>?_;obtain rfl:=LZ w;refine nE e4 λv' j3 e5=>?_;refine xB e5 λhb e6=>?_;obtain ⟨rfl,rfl⟩:=aK e6;rw [H.K] at j3;refine Lu j3 λhz j3=>?_;simp only [aS,beq_iff_eq] at hz;obtain ⟨⟨hz1,hz2⟩,GG⟩:=hz;refine iJ (mJ hz1) λk1 k2 k3 k4 r'1=>?_;refine lG r'1 λcd k5=>?_;rw [k5] at hz2;refine gH (F.Dt hT h1 hx h2) λp pa ho ds r'3=>?_;refine vB r'3 λn q'2 g1 g2 g3 g4 r'4=>?_;refine cT r'4 λJH g5 I=>?_;obtain rfl:=q'2;have:=g5 a;rw [j3] at this;refine aR this λy hy ry=>?_;exact get_value F.isIn I k1 (findObj_own k5 hz2 GG (by rw [yL g3 g4,hy])) (xD hb ry) (q.toks F ry)
theorem Hl{a:Str}{x:ay}{C:bj}{d:Nat}{vs:List (Option V)}(F:Fits B ρ σ fr up env fl s)(H:eh c B)(h1:el c o up.fz ⟨fr,σ⟩=af (.slots C d vs,⟨fr,σ⟩))(e2:IC c a C d vs up.fz ⟨fr,σ⟩=af (v,s₁))(hx:cA ρ o x)
  (q:KV B env fl up ρ s s₁.fr s₁.os v Q):wpAny (model B.pr B.w) A (oE x a ao) Q E s:=by
 have hT:=H.aj;refine objE e2 λod h2 e3=>?_;refine bZ e3 λes w e4=>?_;obtain rfl:=LZ w;refine nE e4 λpi j3 e5=>?_;refine nE e5 λv' j4 e6=>?_;refine xB e6 λhb e7=>?_;obtain ⟨rfl,rfl⟩:=aK e7;rw [H.K] at j3;refine Lu j3 λhz j3=>?_;refine iJ (mJ hz) λk1 k2 k3 k4 r'5=>?_;refine lG r'5 λcd k5=>?_;refine iJ (zD (p:=pi.1) (i:=pi.2) j3) λm1 m2 m3 m4 m5=>?_;refine uo (F.IX hT h1 hx h2) λp pa ho sl q'6 g1 g2 g3 I=>?_;obtain rfl:=q'6;have:=g3 pi.2;rw [j4] at this;refine aR this λy hy ry=>?_;refine get_bind F.isIn I k1 (Du k5 m1 m2 m3) k2 ?_;refine pU (slot_get (s:={s with toks:=s.toks+1}) F.isIn I m5 hy ?_);show wpAny _ _ (handedOut y) _ _ _;refine (handedOut_of (xD hb ry))▸ ?_;exact bG (q.toks F ry)
theorem Hm{a:Str}{x:ay}{l k:Nat}(F:Fits B ρ σ fr up env fl s)(H:eh c B)(h1:el c o up.fz ⟨fr,σ⟩=af (.kO l k,⟨fr,σ⟩))(e2:ID o a up.fz ⟨fr,σ⟩=af (v,s₁))(hx:cA ρ o x)
  (q:KV B env fl up ρ s s₁.fr s₁.os v Q):wpAny (model B.pr B.w) A (oE x a ao) Q E s:=by
 have hT:=H.aj;refine xB e2 λha e3=>?_;refine bZ e3 λi w e4=>?_;obtain rfl:=qy w;refine cT (eQ e4) λhz q'7 q'8=>?_;obtain rfl:=q'7;obtain rfl:=q'8;refine dZ (F.obj hT h1 hx) λ_ r'11=>?_;refine ck r'11 λp r q'9 g1 r'12=>?_;refine aR r'12 λl g2 q'10=>?_;obtain rfl:=q'9;obtain rfl:=q'10;have hi:=qY hx rfl;subst ha;obtain ⟨hp,g,d,tk,os⟩:=s;refine J5 g1 ?_;exact q.alloc (tk:=tk+1) F ⟨p,hi,rfl⟩
theorem J6{a:Str}{x:ay}{C:bj}{t:Nat}(F:Fits B ρ σ fr up env fl s)(H:eh c B)(h1:el c o up.fz ⟨fr,σ⟩=af (.exc C t,⟨fr,σ⟩))(e2:LK c a C t up.fz ⟨fr,σ⟩=af (v,s₁))(hx:cA ρ o x)
  (q:KV B env fl up ρ s s₁.fr s₁.os v Q):wpAny (model B.pr B.w) A (oE x a ao) Q E s:=by
 have hT:=H.aj;refine xB e2 λha e4=>?_;obtain ⟨rfl,rfl⟩:=aK e4;refine dZ (F.obj hT h1 hx) λ_ r'14=>?_;refine ck r'14 λp r q'13 g1 r'15=>?_;refine eu r'15 λt0 fs g2 g3 g4 g5=>?_;obtain rfl:=q'13;obtain ⟨rfl,hC⟩:=ha;rw [H.ib] at hC;exact B.args hC F.base g1 g3 g4 g5 (q.toks F ⟨t0,g2,rfl⟩)
theorem IY{a:Str}{x:ay}(F:Fits B ρ σ fr up env fl s)(H:eh c B)(e:eD c o a up.fz ⟨fr,σ⟩=af (v,s₁))(hx:cA ρ o x)
  (q:KV B env fl up ρ s s₁.fr s₁.os v Q):wpAny (model B.pr B.w) A (oE x a ao) Q E s:=by
 refine objE e λob h1 e1=>?_;refine ef e1 (λ_ w e2=>?_) (λ_ e1=>?_)
 ·obtain rfl:=Dq w;exact Hj F H h1 e2 hx q
 refine ef e1 (λ_ w e2=>?_) (λ_ e1=>?_)
 ·obtain rfl:=IS w;exact Hl F H h1 e2 hx q
 refine ef e1 (λ_ w e2=>?_) (λ_ e1=>?_)
 ·obtain rfl:=IQ w;exact Hm F H h1 e2 hx q
 refine bZ e1 λ_ w e2=>?_;obtain rfl:=RQ w;exact J6 F H h1 e2 hx q
theorem J7{C:bj}{d:Nat}{pa:bj}{vs:List (Option V)}{y:ay}(hd:ρ[d]? =af pa)(hi:i<vs.length)(hz:sl.size<=vs.length)(hv:∀k:Nat,n8 ρ (vs[k]?).join (sl[k]?).join)(hy:cA ρ v y):
  ou B.pr B.w ρ (.slots C d (vs.set i (af v))) ⟨.ref C,af pa,.plain,(sl++hY (i+1-sl.size) ae).setIfInBounds i (af y)⟩:=by
 refine ⟨pa,_,hd,rfl,?_,λk=>?_⟩
 ·simp;exact (yu _ _).elim (λq=>ai (ar (fy q)) hi) λq=>by rw [ud q];exact hz
 ·by_cases hk:k=i
  ·subst hk;refine (dT hi)▸ ?_;have:((sl++hY (k+1-sl.size) ae).setIfInBounds k (af y))[k]? =af (af y):=by
    refine (nY).trans ?_;simp;exact Nat.sub_le_iff_le_add'.mp (ax _)
   rw [this];exact ⟨y,rfl,hy⟩
  ·rw [bH (λe=>hk e.symm)];have:(((sl++hY (i+1-sl.size) ae).setIfInBounds i (af y))[k]?).join=(sl[k]?).join:=by
    rw [nY,if_neg (λe=>hk e.symm)];rcases et k sl.size with h|h
    ·exact congrArg _ (Array.getElem?_append_left h)
    ·rw [Array.getElem?_append_right h,Array.getElem?_eq_none h];induction q:(hY (i+1-sl.size) (ae:Option ay))[k-sl.size]? using aw with
     |none=>rfl
     |some z=>
      rw [Array.getElem?_replicate] at q;split at q
      ·(injection q with q;subst q);rfl
      ·exact nn q
   rw [this];exact hv k
theorem Mg{C p x:bj}{od:Option Obj}{ox:Obj}{v:ay}(X:B.K.In s.heap)(I:InstAt s.heap x ox C od)(hp:slotIn B.K p C=af i)(hi:i<1000)
  (h:R (.ok (.ret .none)) {s with heap:=s.heap.update x λo=>{o with slots:=(o.slots++hY (i+1-o.slots.size) ae).setIfInBounds i (af v)}}):
  gK (model B.pr B.w) A (.call (.builtin "member_descriptor.__set__") ⟨[.ref p,.ref x,v],[]⟩) R s:=by
 refine gH (slot_of X hp) λn tn owner behind r'17=>?_;refine uo r'17 λtb d sl cd ho hc hm hb q'16=>?_;obtain rfl:=q'16;obtain ⟨hh,g,dr,t,os⟩:=s;have L0:=I.type (M:=model B.pr B.w);have L1:=looks_mroIn (M:=model B.pr B.w) X hm;have L2:Looks (model B.pr B.w) hh (Builtin.Slots.slotNamesOf (.ref C)) cd.slotNames:=(looks_clsIn X hc).andThen .now;have hx:=I.at_;dsimp only at ho hx L0 L1;have f0:=vi (M:=model B.pr B.w) ho 0 (v:=.str n tn) rfl;have f1:=vi (M:=model B.pr B.w) ho 1 (v:=owner) rfl;have f3:=vi (M:=model B.pr B.w) ho 3 (v:=.builtin "proto.slot#set") rfl;have f4:=vi (M:=model B.pr B.w) ho 4 (v:=.int behind tb) rfl;have f5:Looks (model B.pr B.w) hh (vR (.ref p)) [.ref p]:=((Looks.ld (part:=none) ho).andThen .now).andThen (wx (by kernel_rfl));refine nN yv.plain KF.entry_mset (yv.check _ _ _ _ _ _ _ _ ⟨_,ho,rfl⟩ (KF.args_mset _ _ _) ?_);unfold Builtin.«member_descriptor.__set__» w7 sM sd sN isInstance
 repeat lk
 refine ⟨w8 _ (by decide+kernel),t6 KF.entry_slotset ?_⟩;unfold Builtin.«proto.slot#set» Builtin.Slots.target
 repeat lk
 refine (if_neg hb)▸ ?_;refine bG (aB ?_);unfold setSlotAt;dsimp only;rw [if_neg (by rw [sizeLine_eq];exact tu.mpr (aD hi (ak rfl)))];exact wpAny_updatePart hx (bG h)
theorem J8(h:lookE es x≠ae):x∈es.map (·.1):=by
 induction es with
 |nil=>exact absurd rfl h
 |cons e r ih=>
  obtain ⟨k,v⟩:=e;dsimp only [lookE] at h;by_cases hk:k=x
  ·simp [hk]
  ·rw [if_neg hk] at h;exact i8 _ (ih h)
theorem Px{o:Obj}{ds:Array DictEntry}(ho:h.get? a=af o)(r:ou B.pr B.w ρ (.ns es) o)(hd:o.data= .dict ds n):ds.size<=es.length:=by
 refine eu r λds' n' h1 h2 h3 h4=>?_;rw [hd] at h1;obtain ⟨⟩:=h1;have:=Heap.Ns1.count (h:=h) (a:=a) (m:=tB ds) (ns:=es.map (·.1)) ⟨o,ds,n,ho,hd,h2,h3,λ_=>rfl⟩ (λy hy=>J8 λq=>hy (by
  have:=h4 y;rw [q] at this;exact this))
 refine jo this λo' es' ep k1 k2 k3=>?_;rw [ho] at k1;(injection k1 with k1;subst k1);rw [hd] at k2;obtain ⟨⟩:=k2;simpa using k3
theorem Hn{a:Str}{x y:ay}{Q:Unit->aM->Prop}{C:bj}{d:Nat}(F:Fits B ρ σ fr up env fl s)(H:eh c B)(h1:el c o up.fz ⟨fr,σ⟩=af (.inst C d,⟨fr,σ⟩))(e2:IE c a v C d up.fz ⟨fr,σ⟩=af (u,s₁))(hx:cA ρ o x)(hy:cA ρ v y)
  (q:KA B env fl up ρ s s₁.fr s₁.os () Q):wpAny (model B.pr B.w) A (Al x a y) Q E s:=by
 have hT:=H.aj;refine objE e2 λod h2 e3=>?_;refine bZ e3 λes w e4=>?_;obtain rfl:=LZ w;refine xB e4 λhz e5=>?_;rw [H.K] at hz;simp only [aS,beq_iff_eq] at hz;obtain ⟨⟨hz1,hz2⟩,GG⟩:=hz;refine iJ (mJ hz1) λk1 k2 k3 k4 r'18=>?_;refine lG r'18 λcd k5=>?_;rw [k5] at hz2;refine iz (i5 e5) λh3 h4 Es q'19=>?_;obtain rfl:=q'19;refine gH (F.Dt hT h1 hx h2) λp pa ho ds r'21=>?_;refine vB r'21 λn q'20 g1 g2 g3 g4 r'22=>?_;refine cT r'22 λJH g5 I=>?_;obtain rfl:=q'20;have F':=F.toks (s.toks+1);refine set_plain F.isIn I k3 ?_;refine osa_open (s:={s with toks:=s.toks+1}) F.isIn I k4 GG λb=>?_;refine aB (bG (aB (aB (wpAny_loadPart I.at_ (aB ((looks_clsIn (K:=B.K) F'.isIn k5).here ?_))))));rw [show cd.hasDict=ao from hz2];refine bG (a:=af pa) (aB (bG (aB ?_)));have hn:s.heap.Ns1 pa (tB ds):=⟨ho,ds,n,g2,g3,g4,JH,λ_=>rfl⟩;refine wpAny_nsSet1 (s:={s with toks:=s.toks+1}) hn λh' n1 n2=>?_;refine jV n1 λo' ds' n' m1 m2 m3 m3' m4=>?_;have rel:ou B.pr B.w ρ (.ns (jY _ a v)) o':=⟨ds',n',m2,m3,m3',λz=>by
  rw [AN,m4];show n8 ρ (if z=a then af v else _) (if z=a then af y else _);by_cases hz:z=a
  ·rw [if_pos hz,if_pos hz];exact ⟨y,rfl,hy⟩
  ·rw [if_neg hz,if_neg hz];exact g5 z⟩
 have hsz:=Px m1 rel m2;have hle:=iK (show decide _=ao from h4);refine aB (wpAny_lookBehind m1 (by refine m2▸ ?_;exact pastItsLine_dict (by refine sizeLine_eq▸ ?_;exact qk (ai hsz hle) rfl)) (bG ?_));obtain ⟨a1,a2⟩:=F.setAt Es g1 n2 m1 rel (s.toks+1+1);exact q _ _ a1 a2
theorem Ho{a:Str}{x y:ay}{Q:Unit->aM->Prop}{C:bj}{d:Nat}{vs:List (Option V)}(F:Fits B ρ σ fr up env fl s)(H:eh c B)(h1:el c o up.fz ⟨fr,σ⟩=af (.slots C d vs,⟨fr,σ⟩))(e2:IF c o a v C d vs up.fz ⟨fr,σ⟩=af (u,s₁))(hx:cA ρ o x)(hy:cA ρ v y)
  (q:KA B env fl up ρ s s₁.fr s₁.os () Q):wpAny (model B.pr B.w) A (Al x a y) Q E s:=by
 have hT:=H.aj;refine bZ e2 λi w e4=>?_;obtain rfl:=qy w;refine objE e4 λod h2 e5=>?_;refine bZ e5 λes w e6=>?_;obtain rfl:=LZ w;refine nE e6 λpi j3 e7=>?_;refine xB e7 λhz e8=>?_;rw [H.K] at hz j3;refine cT hz λhz1 hz2 GG=>?_;refine iz (i5 e8) λh4 h5 Es q'23=>?_;obtain rfl:=q'23;refine Lu j3 λhc j3=>?_;refine iJ (mJ hc) λk1 k2 k3 k4 r'24=>?_;refine lG r'24 λcd k5=>?_;refine iJ (zD (p:=pi.1) (i:=pi.2) j3) λm1 m2 m3 m4 m5=>?_;refine uo (F.IX hT h1 hx h2) λp pa ho sl qK g1 g2 g3 I=>?_;have hi:=qY hx qK;subst qK;refine set_plain F.isIn I k3 ?_;refine osa_descr (s:={s with toks:=s.toks+1}) yv F.isIn I k4 GG m4 ?_;refine Mg (s:={s with toks:=s.toks+1}) F.isIn I m5 hz2 ?_;have hs:il p s.heap (s.heap.update p λo=>{o with slots:=(o.slots++hY (pi.2+1-o.slots.size) ae).setIfInBounds pi.2 (af y)}):=kJ ..;have hr:=fO (λo=>{o with slots:=(o.slots++hY (pi.2+1-o.slots.size) ae).setIfInBounds pi.2 (af y)}) I.at_ rfl;obtain ⟨a1,a2⟩:=F.setAt Es hi hs hr (J7 g1 hz1 g2 g3 hy) (s.toks+1);exact q _ _ a1 a2
theorem AO{a:Str}{x y:ay}{Q:Unit->aM->Prop}(F:Fits B ρ σ fr up env fl s)(H:eh c B)(e:d8 c o a v up.fz ⟨fr,σ⟩=af (u,s₁))(hx:cA ρ o x)(hy:cA ρ v y)
  (q:KA B env fl up ρ s s₁.fr s₁.os () Q):wpAny (model B.pr B.w) A (Al x a y) Q E s:=by
 refine objE e λob h1 e1=>?_;refine ef e1 (λ_ w e2=>?_) (λ_ e1=>?_)
 ·obtain rfl:=Dq w;exact Hn F H h1 e2 hx hy q
 refine bZ e1 λ_ w e2=>?_;obtain rfl:=IS w;exact Ho F H h1 e2 hx hy q
end
theorem zT(l:bj)(items:Array ay):Meets (Builtin.«bool.__new__» ⟨[.type "bool",.ref l],[]⟩)
  (λ_ R s=>s.heap.IsList l items/\(items.size:Int)<2^63/\R (.ok (.ret (.bool (!items.isEmpty)))) {s with toks:=s.toks+1+1}):=
 Meets.of_wp λprog w A R s hs=>by
  obtain ⟨hp,g,d,tk,os⟩:=s;refine cT hs λhl hz hr=>?_;have f1:=F.conv_sub_bool
  repeat (any_goals (first|assumption|with_reducible refine wpAny_truthy_list hl hz ?_ |wp_step))
  all_goals first|exact ⟨_,rfl,hr⟩|skip
section
variable{k:Lv}
theorem Fits.grown(F:Fits B ρ σ fr up env fl s)(hk:∀b o,s.heap.get? b=af o->h'.get? b=af o)(tk:Nat):
  Step ρ (wr up env) s ρ {s with heap:=h',toks:=tk}/\Fits B ρ σ fr up env fl {s with heap:=h',toks:=tk}:=by
 have st:Step ρ (wr up env) s ρ {s with heap:=h',toks:=tk}:=⟨⟨[],by simp,λa ha=>nomatch ha⟩,λb o e=>⟨o,hk b o e⟩,λb o e _ _=>hk b o e,λb _ _ o e=>⟨o,hk b o e,rfl⟩,rfl,rfl,rfl⟩;exact ⟨st,F.step st (F.rep.other λb o e _=>hk b o e) (F.mw.keep st.ext' λa _ o e=>hk a o e)⟩
theorem bM.nil_inv(h:bM ρ [] ys):ys= []:=by induction ys using aC with|nil=>rfl|cons _ _=>obtain ⟨⟩:=h
theorem bM.cons_inv{x:V}(h:bM ρ (x::xs) ys):∃y zs,ys=y::zs/\cA ρ x y/\bM ρ xs zs:=by
 induction ys using aC with
 |nil=>obtain ⟨⟩:=h
 |cons y zs=>exact ⟨y,zs,rfl,h.1,h.2⟩
theorem bM.one{x:V}(h:bM ρ [x] ys):∃y,ys= [y]/\cA ρ x y:=by
 refine ck h.cons_inv λy zs q'1 h1 h2=>?_;obtain rfl:=q'1;rw [h2.nil_inv];exact ⟨y,rfl,h1⟩
theorem J9(h:SQ x=af v):∃z,x=⟨#[z]⟩/\v= .int (z:Nat):=by
 obtain ⟨⟨l⟩⟩:=x;delta SQ at h;dsimp only at h;induction l using aC with
 |nil=>exact nn h
 |cons y l=>induction l using aC with
  |nil=>(injection h with h;subst h);exact ⟨_,rfl,rfl⟩
  |cons _ _=>exact nn h
theorem bM.empty{ys:Array ay}(h:bM ρ xs ys.toList):ys.isEmpty=xs.isEmpty:=by
 have:=h.length;induction xs using aC with
 |nil=>simpa [Cq] using this.symm
 |cons x xs=>induction q:ys.isEmpty using cF with
  |false=>rfl
  |true=>simp [yr] at q;subst q;trivial
theorem wN{xs:List ay}{f:V->M α}{s:eP}{r:α × eP}(e:e9 (oW as) f z s=af r)(hx:bM ρ as xs)(k:∀v x,xs= [x]->cA ρ v x->f v z s=af r->C):C:=
 bZ e λv w e=>by
  rw [AG w] at hx;exact aR hx.one λx h1 h2=>k v x h1 h2 e
theorem Mh{xs:List ay}{f:Unit->M α}{s:eP}{r:α × eP}(e:e9 (GR as) f z s=af r)(hx:bM ρ as xs)(k:xs= []->f () z s=af r->C):C:=
 bZ e λv w e=>by
  rw [VJ w] at hx;exact k hx.nil_inv e
theorem To{xs:List ay}(F:Fits B ρ σ fr up env fl s)(hT:c.aj=B.aj)(e:SR c as up.fz ⟨fr,σ⟩=af (v,s₁))(hx:bM ρ as xs)
  (q:KV B env fl up ρ s s₁.fr s₁.os v Q):wpAny (model B.pr B.w) A (call (.builtin "len") xs) Q E s:=by
 refine wN e hx λa x q'5 qm e=>?_;subst q'5;refine objE e λob h1 e=>?_;refine bZ e λys w e1=>?_;obtain ⟨rfl,rfl⟩:=aK e1;refine vQ (Ab w) (λw=>?_) λw=>?_
 ·subst w;refine b8 (F.jC hT h1 qm) λp ys n q'6 g1 g2 g3=>?_;subst q'6;rw [g2.length.trans cj] at q;exact len_list ⟨_,g1,rfl,n,rfl⟩ (SK g3 (by decide)) (q.toks F ⟨_,rfl⟩)
 ·subst w;refine b8 (F.mH hT h1 qm) λp ys n q'7 g1 g2 g3=>?_;subst q'7;rw [g2.length.trans cj] at q;exact P.len_tuple g1 (Int.not_le.mpr (SK g3 (by decide))) (q.toks F ⟨_,rfl⟩)
theorem Tp{xs:List ay}(F:Fits B ρ σ fr up env fl s)(e:SS as up.fz ⟨fr,σ⟩=af (v,s₁))(hx:bM ρ as xs)
  (q:KV B env fl up ρ s s₁.fr s₁.os v Q):wpAny (model B.pr B.w) A (call (.builtin "ord") xs) Q E s:=by
 refine wN e hx λa x q'5 qm e=>?_;subst q'5;refine Hb e qm λt u q'6 e=>?_;subst q'6;obtain ⟨h2,rfl⟩:=jB e;refine aR (J9 h2) λz q'11 q'12=>?_;subst q'11;subst q'12;exact P.ord_of_char (q.toks F ⟨_,rfl⟩)
theorem Tq{xs:List ay}(F:Fits B ρ σ fr up env fl s)(e:Ph as up.fz ⟨fr,σ⟩=af (v,s₁))(hx:bM ρ as xs)
  (q:KV B env fl up ρ s s₁.fr s₁.os v Q):wpAny (model B.pr B.w) A (call (.builtin "chr") xs) Q E s:=by
 refine wN e hx λa x q'5 qm e=>?_;subst q'5;refine Ds e qm λt u q'6 e=>?_;subst q'6;refine xB e λhz e=>?_;obtain ⟨rfl,rfl⟩:=aK e;exact chr_of_range hz.1 (Int.le_of_lt_add_one hz.2) (q.toks F ⟨_,rfl⟩)
theorem Mi{xs:List ay}(F:Fits B ρ σ fr up env fl s)(hT:c.aj=B.aj)(e:LP c as up.fz ⟨fr,σ⟩=af (v,s₁))(hx:bM ρ as xs)
  (q:KV B env fl up ρ s s₁.fr s₁.os v Q):wpAny (model B.pr B.w) A (call (.builtin "iter") xs) Q E s:=by
 refine wN e hx λa x q'5 qm e=>?_;subst q'5;refine bZ e λi w e1=>?_;obtain rfl:=qy w;refine listE e1 F hT qm λys p zs n qK g1 g2 g3 e2=>?_;refine cT (eQ e2) λhz q'17 q'18=>?_;subst q'17;subst q'18;have hi:=qY qm qK;subst qK;refine qr (by decide+kernel) (by decide+kernel) kdk_entry_iter (kdk_args_iter _) ?_;unfold Builtin.«iter»;refine aB (m:=someArgs "iter" 1 2 _) (nO (a:=[cB p]) (by first|rfl|kernel_rfl) ?_);show wpAny _ _ (rD (.ref p)>>=_) _ _ _;refine aB (wpAny_pyIter_list ⟨_,g1,rfl,n,rfl⟩ ?_);exact bG ⟨_,rfl,q.alloc F ⟨p,hi,rfl⟩⟩
end
section
variable{k:Lv}
theorem Fits.Dy{o:O}{r:Obj}(F:Fits B ρ σ fr up env fl s)(hf':i∉up.fz)(hi:ρ[i]? =af a)(hk:∀b ob,b≠a->s.heap.get? b=af ob->s'.heap.get? b=af ob)
  (hr:s'.heap.get? a=af r) (hf:ou B.pr B.w ρ o r) (hg:s'.gens=s.gens) (hd:s'.drawn=s.drawn) (hos:s'.os=s.os):Step ρ (wr up env) s ρ s'/\Fits B ρ (σ.set i o) fr up env fl s':=by
 have Cm:=bN hi;have l1:i<ρ.length:=by
  rcases et i ρ.length with q|q
  ·exact q
  ·rw [eE q] at hi;exact nn hi
 have st:Step ρ (wr up env) s ρ s':=⟨⟨[],by simp,λa ha=>nomatch ha⟩,λb o e=>by
   by_cases hb:b=a
   ·subst hb;exact ⟨r,hr⟩
   ·exact ⟨o,hk b o hb e⟩,λb o e h1 _=>hk b o (by
   rintro rfl;rcases h1 with h1|⟨j,hj,h1⟩
   ·exact h1 Cm
   ·have:=(ip l1 F.rep.nd).mp (hi.trans h1.symm);subst this;exact hf' hj) e,λb hb _ o e=>⟨o,hk b o (by rintro rfl;exact (F.Dr _ hb).2.1 Cm) e,rfl⟩,hg,hos,hd⟩
 refine ⟨st,F.step st ⟨by rw [dI];exact F.rep.len,F.rep.nd,F.rep.new,λj o' ho=>?_,λb o' hb=>?_⟩ (F.mw.keep st.ext' λb hb o e=>hk b o (by rintro rfl;exact F.rO _ hb Cm) e)⟩
 ·by_cases hij:i=j
  ·subst hij;rw [dT (by rw [←F.rep.len];exact l1)] at ho;(injection ho with ho;subst ho);exact ⟨a,r,hi,hr,hf⟩
  ·rw [bH hij] at ho;refine ck (F.rep.obj j o' ho) λb r' h1 h2 h3=>?_;exact ⟨b,r',h1,hk b r' (by rintro rfl;exact hij ((ip l1 F.rep.nd).mp (hi.trans h1.symm))) h2,h3⟩
 ·exact hk b o' (by rintro rfl;rw [F.rep.new _ Cm] at hb;exact nn hb) (F.rep.keep b o' hb)
theorem CF(a:Str)(l:List Str):(JW a l).Perm (a::l):=by
 induction l with
 |nil=>exact .refl _
 |cons b r ih=>
  dsimp only [JW];by_cases h:ltB b a=ao
  ·rw [if_pos h];exact (ih.cons b).trans (.swap ..)
  ·rw [if_neg h]
theorem o4(l:List Str):(rM l).Perm l:=by
 induction l with
 |nil=>exact .refl _
 |cons a r ih=>exact (CF a (rM r)).trans (ih.cons a)
def leB(a b:Str):Prop:=¬(b.cps.toList<a.cps.toList)
theorem ltB_iff{a b:Str}:ltB a b=ao↔a.cps.toList<b.cps.toList:=by
 unfold ltB;rw [ltCps_eq];exact decide_eq_true_iff
theorem CG{a b c:Str}(h:leB a b)(h':leB b c):leB a c:=by
 have h1:a.cps.toList<=b.cps.toList:=h;have h2:b.cps.toList<=c.cps.toList:=h';exact (List.le_trans h1 h2:a.cps.toList<=c.cps.toList)
theorem xE{a b:Str}(h:leB a b)(h':leB b a):a=b:=by
 have h1:a.cps.toList<=b.cps.toList:=h;have h2:b.cps.toList<=a.cps.toList:=h';have:=List.le_antisymm h1 h2;obtain ⟨⟨x⟩⟩:=a;obtain ⟨⟨y⟩⟩:=b;exact congrArg (λl=>(⟨⟨l⟩⟩:Str)) this
theorem E3(a:Str)(l:List Str)(h:l.Pairwise leB):(JW a l).Pairwise leB:=by
 induction l with
 |nil=>exact sf _ _
 |cons b r ih=>
  have h1:=ji.mp h;dsimp only [JW];by_cases hb:ltB b a=ao
  ·rw [if_pos hb];refine ji.mpr ⟨λx hx=>?_,ih h1.2⟩;rcases jJ ((CF a r).mem_iff.mp hx) with rfl|hx
   ·exact λq=>absurd (ltB_iff.mp hb) (List.lt_asymm q)
   ·exact h1.1 x hx
  ·rw [if_neg hb];have hab:leB a b:=λq=>hb (ltB_iff.mpr q);refine ji.mpr ⟨λx hx=>?_,h⟩;rcases jJ hx with rfl|hx
   ·exact hab
   ·exact CG hab (h1.1 x hx)
theorem xF(l:List Str):(rM l).Pairwise leB:=by
 induction l with
 |nil=>exact .nil
 |cons a r ih=>exact E3 a _ ih
theorem Ka(l:List Str):∀p,risingS p l=ao->(p::l).Pairwise leB:=by
 induction l with
 |nil=>intro p _;exact sf _ _
 |cons x r ih=>
  intro p h;have h':(!PySem.Spec.ltCps x.cps.toList p.cps.toList&&risingS x r)=ao:=h;rw [aS] at h';have h2:=ih x h'.2;have hpx:leB p x:=λq=>by have:=ltB_iff.mpr q;unfold ltB at this;rw [this] at h';exact absurd h'.1 (by decide)
  refine ji.mpr ⟨λy hy=>?_,h2⟩;rcases jJ hy with rfl|hy
  ·exact hpx
  ·exact CG hpx ((ji.mp h2).1 y hy)
theorem CH(h:sortedS l=ao):l.Pairwise leB:=by
 induction l using aC with
 |nil=>exact .nil
 |cons p l=>exact Ka l p h
theorem Kb{l':List Str}(hp:l'.Perm l)(hs:sortedS l'=ao):l'=rM l:=
 rE (le:=leB) (λ_ _ _ _ h h'=>xE h h') (CH hs) (xF l) (hp.trans (o4 l).symm)
theorem Mj(r:bM ρ xs ys):∀ss,Ay xs=af ss->Am ys ss:=
 r.by (P:=λxs ys=>∀ss,Ay xs=af ss->Am ys ss) (λss e=>by injection e with e;subst e;exact .nil) (λx xs y ys r _ ih ss e=>by
  refine eW e λa h1 e=>?_;refine lmap e λss' h2 q=>?_;subst q;obtain rfl:=nD h1;obtain ⟨t,rfl⟩:=r;exact .cons _ _ (ih _ h2))
theorem IZ{ss:List Str}(h:Am ys ss):bM ρ (ss.map bp) ys:=by
 induction h with
 |nil=>trivial
 |cons y t _ ih=>exact ⟨⟨t,rfl⟩,ih⟩
theorem Kc:∀{ss:List Str},Ay xs=af ss->xs.length=ss.length:=by
 induction xs with
 |nil=>intro ss e;injection e with e;subst e;rfl
 |cons x xs ih=>
  intro ss e;refine eW e λa h1 e=>?_;refine lmap e λss' h2 q=>?_;subst q;exact congrArg (· +1) (ih h2)
theorem E4{ys:Array ay}{ss:List Str}(ho:s.heap.get? a=af ⟨.type "tuple",ae,.seq ys n,#[]⟩)(hS:Am ys.toList ss)(h64:ys.toList.length<64)
  (h:∀(h1:pQ) (out:Array ay) (e:Nat),(∀b o,s.heap.get? b=af o->h1.get? b=af o)->Am out.toList (rM ss)->
   (sortedHeap (h1.push (w9 "list" ys 0)) h1.objs.size ys.toList out).get? h1.objs.size=af (w9 "list" out e)->Q (.ref h1.objs.size) {s with heap:=sortedHeap (h1.push (w9 "list" ys 0)) h1.objs.size ys.toList out}):
  wpAny (model B.pr B.w) A (call (.builtin "sorted") [.ref a]) Q E s:=by
 refine qr PyProof.Rows.kind_sorted PyProof.Rows.plain_sorted PyProof.Rows.entry_sorted (PyProof.Rows.args_sorted1 _) ?_;unfold Builtin.«sorted»;refine aB (m:=checkCount "sorted" 1 1 _) (bG ?_);refine aB (wpAny_collect_seq a (.inr rfl) ho rfl rfl (λh1 hk=>?_) (by show _<=2^24;simp at h64;exact qk (bS h64) rfl));refine aB (wpAny_newList ?_);have Zk:(h1.push (w9 "list" ys.toList.toArray 0)).get? h1.objs.size=af (w9 "list" ys.toList.toArray 0):=dc _ rfl;show wpAny _ _ _ _ _ {s with heap:=h1.push (w9 "list" ys.toList.toArray 0)};refine aB (dX (wpAny_call_entry PyProof.Rows.slot_list_sort ⟨_,Zk,rfl⟩ PyProof.Rows.entry_list_sort (list_sort_treeK strKind_oneLt Zk hS.keysOf (λv_1 v_2 rest e=>keyKind_strs (by rw [←e];exact hS)) h64 λst' a1 a2=>⟨_,rfl,?_⟩) (PyProof.Rows.args_list_sort _)));refine bG ⟨_,rfl,?_⟩;refine cO (sorted_out_str hS a1 a2) λss' Ik h2' h3'=>?_;obtain rfl:=Kb h2' h3';refine lG (sortedHeap_at (out:=(arrOf st').map (·.2)) Zk) λe he=>?_;exact h h1 _ e hk Ik he
theorem Kd{xs:List ay}(F:Fits B ρ σ fr up env fl s)(hT:c.aj=B.aj)(e:Dk c as up.fz ⟨fr,σ⟩=af (v,s₁))(hx:bM ρ as xs)
  (q:KV B env fl up ρ s s₁.fr s₁.os v Q):wpAny (model B.pr B.w) A (call (.builtin "sorted") xs) Q E s:=by
 refine wN e hx λa x q'5 qm e=>?_;subst q'5;refine objE e λob h1 e=>?_;refine bZ e λls w e=>?_;obtain rfl:=Aa w;refine nE e λss h2 e=>?_;refine xB e λhl e=>?_;refine b8 (F.mH hT h1 qm) λp ys n q'3 g1 g2 g3=>?_;subst q'3;refine bQ e λr s_2 h3 e=>?_;refine cT (eQ h3) λhz q'6 q'7=>?_;subst q'6;subst q'7;refine bZ e λi w2 e=>?_;injection w2 with w2;subst w2
 refine bQ e λu s_3 h4 e=>?_;refine iz (i5 h4) λh5 h6 h7 q'8=>?_;subst q'8;obtain ⟨rfl,rfl⟩:=aK e;have hlen:=g2.length;refine E4 g1 (Mj g2 _ h2) (by rw [←hlen,Kc h2];exact hl) λhp out e' hk hS hL=>?_;refine dZ (F.grown hk s.toks) λst1 F1=>?_;refine cT (F1.alloc (o:=.list ls) (r:=w9 "list" ys 0) ⟨ys,0,rfl,g2,g3⟩ s.toks) λst2 F2 hv=>?_;have hi:(ρ++ [hp.objs.size])[σ.length]? =af hp.objs.size:=by
  rw [←F.rep.len];simp
 have hsz:out.size<=1000000:=by
  have:=(IZ (ρ:=ρ) hS).length;rw [aH,(o4 ss).length_eq] at this;rw [←cj,←this];exact bS (aD hl (ak rfl))
 refine dZ (F2.Dy (s':={s with heap:=sortedHeap (hp.push (w9 "list" ys 0)) hp.objs.size ys.toList out}) (o:=.list ((rM ss).map bp)) h7 hi (λb ob hb ho=>(sortedHeap_old hb (dj ho)).trans ho) hL ⟨out,e',rfl,IZ hS,hsz⟩ rfl rfl rfl) λst3 F3=>?_;exact q _ _ _ ((st1.trans st2).trans st3) F3 hv
theorem VU{id:String}{xs:List ay}(F:Fits B ρ σ fr up env fl s)(H:eh c B)(e:Pj c id as up.fz ⟨fr,σ⟩=af (v,s₁))(hx:bM ρ as xs)
  (q:KV B env fl up ρ s s₁.fr s₁.os v Q):wpAny (model B.pr B.w) A (call (.builtin id) xs) Q E s:=by
 refine EA e (λo6 e=>?_) λe=>?_
 ·subst o6;exact To F H.aj e hx q
 refine EA e (λo6 e=>?_) λe=>?_
 ·subst o6;exact Tp F e hx q
 refine EA e (λo6 e=>?_) λe=>?_
 ·subst o6;exact Tq F e hx q
 refine EA e (λo6 e=>?_) λe=>?_
 ·subst o6;exact Mi F H.aj e hx q
 refine xB e λo6 e=>?_;subst o6;exact Kd F H.aj e hx q
theorem Ke{xs:List ay}(F:Fits B ρ σ fr up env fl s)(e:Dl as up.fz ⟨fr,σ⟩=af (v,s₁))(hx:bM ρ as xs)
  (q:KV B env fl up ρ s s₁.fr s₁.os v Q):wpAny (model B.pr B.w) A (call (.type "range") xs) Q E s:=by
 refine ef e (λa w e=>?_) (λ_ e=>?_)
 ·rw [AG w] at hx;refine aR hx.one λx q'1 qm=>?_;subst q'1;refine Ds e qm λt u q'2 e=>?_;subst q'2;refine cT (eQ e) λhz q'22 q'23=>?_;subst q'22;subst q'23;exact call_range_1 (q.alloc F ⟨_,_,_,rfl⟩)
 ·refine bZ e λa w e=>?_;rw [Pq w] at hx;refine ck hx.cons_inv λx zs q'24 q'25 Ys=>?_;subst q'24;refine ck Ys.cons_inv λy zs q'26 q'27 hx3=>?_;subst q'26;refine aR hx3.one λz q'28 r'30=>?_;subst q'28;refine Ds e q'25 λi t q'1 e=>?_;refine Ds e q'27 λj u q'2 e=>?_;refine Ds e r'30 λk w q'3 e=>?_;subst q'1;subst q'2;subst q'3;refine xB e λhz e=>?_;refine cT (eQ e) λhz' q'31 q'32=>?_;subst q'31;subst q'32;exact call_range_3 (Int.ne_of_gt hz.1) (q.alloc F ⟨_,_,_,rfl⟩) (.inl (tE (oG.mp (lA (oC (nJ (tH hz.1))) (yj hz.2 (by decide))))))
theorem Kf{xs:List ay}(F:Fits B ρ σ fr up env fl s)(hT:c.aj=B.aj)(e:GW c as up.fz ⟨fr,σ⟩=af (v,s₁))(hx:bM ρ as xs)
  (q:KV B env fl up ρ s s₁.fr s₁.os v Q):wpAny (model B.pr B.w) A (call (.type "tuple") xs) Q E s:=by
 refine wN e hx λa x q'5 qm e=>?_;subst q'5;refine listE e F hT qm λys p zs n q'6 g1 g2 g3 e=>?_;subst q'6;refine cT (eQ e) λhz q'34 q'35=>?_;subst q'34;subst q'35;refine call_tuple_list ⟨_,g1,rfl,n,rfl⟩ (λh' hk=>?_) (by show _<=2^24;exact qk g3 rfl);obtain ⟨st,F'⟩:=F.grown hk s.toks;have q':KV B env fl up ρ {s with heap:=h',toks:=s.toks} fr (σ++ [_]) (.ref σ.length) Q:=λρ' s' x a b c=>q ρ' s' x (st.trans a) b c;exact q'.alloc F' ⟨zs,0,rfl,g2,g3⟩
theorem Mk{xs:List ay}(F:Fits B ρ σ fr up env fl s)(hT:c.aj=B.aj)(e:LR c as up.fz ⟨fr,σ⟩=af (v,s₁))(hx:bM ρ as xs)
  (q:KV B env fl up ρ s s₁.fr s₁.os v Q):wpAny (model B.pr B.w) A (call (.type "bool") xs) Q E s:=by
 refine wN e hx λa x q'5 qm e=>?_;subst q'5;refine listE e F hT qm λys p zs n q'6 g1 g2 g3 e=>?_;subst q'6;obtain ⟨rfl,rfl⟩:=aK e;refine call_bool_1 (zT p zs) ⟨⟨_,g1,rfl,n,rfl⟩,SK g3 (by decide),?_⟩;refine ⟨rfl,?_⟩;refine g2.empty▸ ?_;exact q.toks F rfl
theorem Py{xs:List ay}(F:Fits B ρ σ fr up env fl s)(e:RL as up.fz ⟨fr,σ⟩=af (v,s₁))(hx:bM ρ as xs)
  (q:KV B env fl up ρ s s₁.fr s₁.os v Q):wpAny (model B.pr B.w) A (call (.type "set") xs) Q E s:=by
 refine Mh e hx λq'5 e=>?_;subst q'5;refine cT (eQ e) λhz q'39 q'40=>?_;subst q'39;subst q'40;refine call_set_0 λled=>q.alloc F ⟨#[],0,_,⟨rfl,rfl,rfl⟩,rfl,?_,?_,by decide,?_,rfl⟩
 ·intro e he;obtain ⟨⟩:=he
 ·intro k;exact iK rfl
 ·rfl
theorem Pz{n:String}{xs:List ay}(F:Fits B ρ σ fr up env fl s)(H:eh c B)(e:Az c n as up.fz ⟨fr,σ⟩=af (v,s₁))(hx:bM ρ as xs)
  (q:KV B env fl up ρ s s₁.fr s₁.os v Q):wpAny (model B.pr B.w) A (call (.type n) xs) Q E s:=by
 refine EA e (λo6 e=>?_) λe=>?_
 ·subst o6;exact Ke F e hx q
 refine EA e (λo6 e=>?_) λe=>?_
 ·subst o6;exact Kf F H.aj e hx q
 refine EA e (λo6 e=>?_) λe=>?_
 ·subst o6;exact Mk F H.aj e hx q
 refine xB e λo6 e=>?_;subst o6;exact Py F e hx q
end
section
variable{k:Lv}
noncomputable def MeR(x:ay):Me->ay × List ay
 | .fn f=>(.ref f,[x])
 | .bi id=>(.builtin id,[x])
theorem Kg{n:Str}{id:String}{l:bj}{ys:Array ay}{m:Nat}{pl:Sem Bool}{Q:ay × List ay->aM->Prop}(h:sT n=af id)(ho:s.heap.get? l=af ⟨.type "list",ae,.seq ys m,#[]⟩)
  (q:Q (.builtin id,[.ref l]) s):wpAny (model B.pr B.w) A (mS (.ref l) n pl) Q E s:=by
 have hd:∀a,cB l= .ref a->∃o,s.heap.get? a=af o/\o.dict=ae:=λa e=>by (injection e with e;subst e);exact ⟨_,ho,rfl⟩
 unfold sT at h
 repeat' split at h
 all_goals first|(cases h;done)|(rename_i hn;(injection h with h;subst h);subst hn;skip)
 ·exact fF ⟨_,ho,rfl⟩ ft rF PySem.F.type_list_append hd q
 ·exact fF ⟨_,ho,rfl⟩ ft kU PySem.F.type_list_extend hd q
 ·exact fF ⟨_,ho,rfl⟩ ft si PySem.F.type_list_clear hd q
 ·exact fF ⟨_,ho,rfl⟩ ft PySem.F.slot_list_pop PySem.F.type_list_pop hd q
 ·exact fF ⟨_,ho,rfl⟩ ft sk PySem.F.type_list_index hd q
 ·exact fF ⟨_,ho,rfl⟩ ft so PySem.F.type_list_count hd q
theorem CI{n:Str}{id:String}{d:bj}{o:Obj}{pl:Sem Bool}{Q:ay × List ay->aM->Prop}(h:wH n=af id)(ho:s.heap.get? d=af o)(he:o.ExactDict)
  (q:Q (.builtin id,[.ref d]) s):wpAny (model B.pr B.w) A (mS (.ref d) n pl) Q E s:=by
 have hd:∀a,cB d= .ref a->∃o,s.heap.get? a=af o/\o.dict=ae:=λa e=>by (injection e with e;subst e);exact ⟨_,ho,he.2.1⟩
 unfold wH at h
 repeat' split at h
 all_goals first|(cases h;done)|(rename_i hn;(injection h with h;subst h);subst hn;skip)
 ·exact fF ⟨_,ho,he.1⟩ sq mC PySem.F.type_dict_get hd q
 ·exact fF ⟨_,ho,he.1⟩ sq rG PySem.F.type_dict_values hd q
theorem Ml{n:Str}{id:String}{t:Tok}{pl:Sem Bool}{Q:ay × List ay->aM->Prop}(h:Ax n=af id)
  (q:Q (.builtin id,[.str x t]) s):wpAny (model B.pr B.w) A (mS (.str x t) n pl) Q E s:=by
 have hd:∀a,kq x t= .ref a->∃o,s.heap.get? a=af o/\o.dict=ae:=λa e=>by injection e
 unfold Ax at h
 repeat' split at h
 all_goals first|(cases h;done)|(rename_i hn;cases h;subst hn;skip)
 ·exact GM.lower q
 ·exact GM.join q
 ·exact GM.index q
theorem sY{o:Option String}{t t':eP}{m:Me}(e:LU o z t=af (m,t'))(k:∀id,o=af id->m= .bi id->t'=t->C):C:=nE e λid h e=>by
 obtain ⟨h1,h2⟩:=aK e;exact k id h h1 h2
theorem AP{C:bj}{t':eP}{m:Me}{G:Prop}(H:eh c B)(e:RM c name C d up.fz ⟨fr,σ⟩=af (m,t'))(k:∀es f,el c (.ref d) up.fz ⟨fr,σ⟩=af (.ns es,⟨fr,σ⟩)->j8 B.K (.ref C) name=af (af (.ref f))->wI B.K C es name f=ao->m= .fn f->t'=⟨fr,σ⟩->G):G:=
 objE e λod h2 e1=>bZ e1 λes w e2=>nE e2 λf h3 e3=>eW h3 λf' h4 h5=>Lu h5 λh6 h7=>by
  obtain rfl:=LZ w;obtain ⟨h8,h9⟩:=aK e3;obtain ⟨⟩:=h7;rw [H.K] at h4 h6;exact k es f h2 (IU h4) h6 h8 h9
theorem Mm{x:ay}{C f:bj}{pl:Sem Bool}{Q:ay × List ay->aM->Prop}(F:Fits B ρ σ fr up env fl s)(H:eh c B)(h1:el c o up.fz ⟨fr,σ⟩=af (.inst C d,⟨fr,σ⟩))
  (h2:el c (.ref d) up.fz ⟨fr,σ⟩=af (.ns es,⟨fr,σ⟩)) (hf:j8 B.K (.ref C) name=af (af (.ref f))) (hz:wI B.K C es name f=ao) (hx:cA ρ o x) (q:Q (.ref f,[x]) s):wpAny (model B.pr B.w) A (mS x name pl) Q E s:=by
 simp only [wI,aS,beq_iff_eq] at hz;refine iz hz λhz1 hz2 GG _=>?_;refine cT (mJ hz1) λk1 k2 _=>?_;refine gH (F.Dt H.aj h1 hx h2) λp pa ho ds r'3=>?_;refine vB r'3 λn q'2 g1 g2 g3 g4 r'4=>?_;refine cT r'4 λJH g5 I=>?_;subst q'2;refine method_fn F.isIn I k1 k2 hf hz2 ?_ q;show (lookIn name ho).map _=_;refine (yL g3 g4)▸ ?_;have:=(g5 name).uI;rw [hU.mp GG] at this;rw [du,←this];rfl
theorem Mn{id:String}{x:ay}{ob:O}{pl:Sem Bool}{Q:ay × List ay->aM->Prop}(F:Fits B ρ σ fr up env fl s)(hT:c.aj=B.aj)(h1:el c o up.fz ⟨fr,σ⟩=af (ob,⟨fr,σ⟩))(j2:idOf ob name=af id)(hx:cA ρ o x)
  (q:Q (.builtin id,[x]) s):wpAny (model B.pr B.w) A (mS x name pl) Q E s:=by
 induction ob using O.casesOn with
 |list xs=>
  refine b8 (F.jC hT h1 hx) λp ys n q'5 g1 g2 g3=>?_;subst q'5;exact Kg j2 g1 q
 |dict xs=>
  refine eu (F.dictAt hT h1 hx) λp kvs q'6 g0 q'7 _=>?_;subst q'6;exact jo q'7 λo es ep g1 g2 g3=>CI j2 g1 g2 q
 |qw xs=>
  refine eu (F.IW hT h1 hx) λp kvs q'9 g0 q'10 _=>?_;subst q'9;exact jo q'10 λo es ep g1 g2 g3=>CI j2 g1 g2 q
 |set xs=>
  refine aR (F.Hd hT h1 hx) λp q'8 g=>?_;subst q'8;refine Lu j2 λhn j2=>?_;(injection j2 with j2;subst j2);subst hn;exact getMethod_set_add g q
 |_=>exact nn j2
theorem xG{x:ay}{m:Me}{pl:Sem Bool}{Q:ay × List ay->aM->Prop}(F:Fits B ρ σ fr up env fl s)(H:eh c B)(e:ew c o name up.fz ⟨fr,σ⟩=af (m,s₁))(hx:cA ρ o x)
  (q:Q (MeR x m) s):s₁=⟨fr,σ⟩/\wpAny (model B.pr B.w) A (mS x name pl) Q E s:=by
 refine ef e (λy w e1=>?_) (λ_ e1=>?_)
 ·obtain rfl:=nD w;refine sY e1 λid h1 h2 h3=>⟨h3,?_⟩;subst h2;exact lG hx λt ht=>by subst ht;exact Ml h1 q
 ·refine objE e1 λob h1 e2=>?_;refine ef e2 (λy w e3=>?_) (λ_ e3=>?_)
  ·obtain rfl:=Dq w;refine AP H e3 λes f h2 h3 h4 h5 h6=>⟨h6,?_⟩;subst h5;exact Mm F H h1 h2 h3 h4 hx q
  ·refine sY e3 λid h2 h3 h4=>⟨h4,?_⟩;subst h3;exact Mn F H.aj h1 h2 hx q
end
section
variable{k:Lv}
theorem Fits.Ad{ys:Array ay}{zs:List V}(f:Array ay->Array ay)(F:Fits B ρ σ fr up env fl s)(hf':i∉up.fz)(hi:ρ[i]? =af a)
  (ho:s.heap.get? a=af ⟨.type "list",ae,.seq ys n,#[]⟩) (hk:bM ρ zs (f ys).toList) (hz:(f ys).size<=1000000) (tk:Nat):
  Step ρ (wr up env) s ρ {s with heap:=s.heap.update a (Obj.mapSeq f),toks:=tk}/\Fits B ρ (σ.set i (.list zs)) fr up env fl {s with heap:=s.heap.update a (Obj.mapSeq f),toks:=tk}:=by
 have hl:IsL s.heap a ys n:=ho;exact F.setAt (o:=.list zs) hf' hi (kJ ..) (hl.update f) ⟨f ys,_,rfl,hk,hz⟩ tk
open Classical in
theorem Hp(r:bM ρ xs ys)(h:xs.all isStr=ao):ys.countP (JZ x)=xs.countP λy=>y= .str x:=
 r.by (P:=λxs ys=>xs.all isStr=ao->ys.countP (JZ x)=xs.countP λy=>y= .str x) (λ_=>rfl) (λv xs y ys r rs ih h=>by
  rw [iC,aS] at h;refine gc (kj h.1 r) λz t q'1 q'2=>?_;obtain rfl:=q'1;obtain rfl:=q'2;rw [sr,sr,ih h.2,Ac]) h
theorem AQ{x:V}:∀{xs:List V}{k j:Nat},posOf x xs k=af j->∃i,j=k+i/\xs[i]? =af x/\∀m,m<i->xs[m]? ≠af x
 | [],k,j,h=>by exact nn h
 |y::xs,k,j,h=>by
  dsimp only [posOf] at h;by_cases hy:y=x
  ·rw [if_pos hy] at h;(injection h with h;subst h);exact ⟨0,rfl,by simp [hy],λm hm=>by exact (gD _ hm).elim⟩
  ·rw [if_neg hy] at h;refine cO (AQ h) λi h1 h2 h3=>?_;refine ⟨i+1,h1.trans (aN _ _ _),by simpa using h2,λm hm=>?_⟩;induction m using lE with
   |zero=>simpa using hy
   |succ m=>simpa using h3 m (by exact dF hm)
theorem bM.Dz{y:ay}(h:bM ρ xs ys)(e:ys[i]? =af y):∃x,xs[i]? =af x/\cA ρ x y:=by
 induction q:xs[i]? using aw with
 |none=>rw [h.none q] at e;exact nn e
 |some x=>
  refine aR (h.get q) λz h1 h2=>?_;rw [e] at h1;(injection h1 with h1;subst h1);exact ⟨x,rfl,h2⟩
theorem bM.push{ys:Array ay}{y:ay}(h:bM ρ xs ys.toList)(hv:cA ρ v y):bM ρ (xs++ [v]) (ys.push y).toList:=by
 rw [Array.toList_push];exact h.append ⟨hv,trivial⟩
theorem bM.PA{ys:Array ay}(h:bM ρ xs ys.toList):bM ρ xs.dropLast (ys.eraseIdxIfInBounds (ys.size-1)).toList:=by
 have e:(ys.eraseIdxIfInBounds (ys.size-1)).toList=ys.toList.take (ys.size-1):=by
  refine Array.eraseIdxIfInBounds_eq▸ ?_;split
  ·rw [Array.toList_eraseIdx,List.eraseIdx_eq_take_drop_succ,fE (by simp;exact Nat.sub_le_iff_le_add.mp (ax _)),bB]
  ·rename_i hz
   have:ys.size=0:=Nat.eq_zero_of_not_pos λq=>hz (Nat.sub_lt q zR);have:ys= #[]:=by simpa using this
   subst this;rfl
 rw [e,List.dropLast_eq_take,h.length.trans cj];exact h.take _
theorem Kh{xs:List Str}{v:Str}{S:Str->Bool}(hS:∀k,S k=decide (k∈xs)):(λk'=>S k'||decide (k'=v))=λk'=>decide (k'∈(if v∈xs then xs else xs++ [v])):=by
 funext k'
 rw [hS];by_cases hv:v∈xs
 ·refine (if_pos hv)▸ ?_;by_cases hk:k'=v
  ·subst hk;simp [hv]
  ·simp [hk]
 ·refine (if_neg hv)▸ ?_;simp [aG]
theorem listI{f:List V->Nat->M α}{r:α × eP}{x:ay}(e:(el c o>>=λob=>e9 ob.jX λxs=>e9 o.ny (f xs)) up.fz ⟨fr,σ⟩=af r)(F:Fits B ρ σ fr up env fl s)(hT:c.aj=B.aj)(hx:cA ρ o x)
  (k:∀xs p ys n i,x= .ref p->s.heap.get? p=af ⟨.type "list",ae,.seq ys n,#[]⟩->bM ρ xs ys.toList->ys.size<=1000000->ρ[i]? =af p->f xs i up.fz ⟨fr,σ⟩=af r->C):C:=
 listE e F hT hx λxs p ys n h1 h2 h3 h4 e=>bZ e λi w e=>by
  obtain rfl:=qy w;exact k xs p ys n i h1 h2 h3 h4 (qY hx h1) e
theorem yM{ob:O}{s_0:eP}{v v':α}(e:(gU i ob>>=λ_=>(aA v':M α)) z s_0=af (v,s₁))(k:sizeOk ob=ao->i∉z->v=v'->s₁=⟨s_0.fr,s_0.os.set i ob⟩->C):C:=
 bQ e λu s_2 h2 e=>iz (i5 h2) λ_ h4 h5 h6=>by
  subst h6;obtain ⟨h7,h8⟩:=aK e;exact k h4 h5 h7 h8
theorem CJ{x:ay}{xs:List ay}(F:Fits B ρ σ fr up env fl s)(hT:c.aj=B.aj)(e:z5 c o as up.fz ⟨fr,σ⟩=af (v,s₁))(hx:cA ρ o x)(hxs:bM ρ as xs)
  (q:KV B env fl up ρ s s₁.fr s₁.os v Q):wpAny (model B.pr B.w) A (call (.builtin "list.append") (x::xs)) Q E s:=by
 refine listI e F hT hx λls p ys n i qK g1 g2 g3 hi e=>?_;refine wN e hxs λa y q'4 hy e=>?_;refine yM e λh4 Es hv hs=>?_;subst qK;subst q'4;subst hv;subst hs;have hl:=g2.length.trans cj;have hz:=iK (show decide _=ao from h4);have hk:=g2.push hy;refine dZ (F.Ad (λzs=>zs.push y) Es hi g1 hk (by rw [Array.size_push];simp at hz;exact aV (ai (ar hl.symm) hz) (ak rfl)) s.toks) λa1 a2=>?_;exact mT rF ⟨_,g1,rfl⟩ PySem.F.entry_list_append (PySem.F.args_list_append_2 _ _) (list_append p ys n y (ai g3 (by decide))) ⟨g1,q _ _ _ a1 a2 rfl⟩
theorem Mo{x:ay}{xs:List ay}(F:Fits B ρ σ fr up env fl s)(hT:c.aj=B.aj)(e:GS c o as up.fz ⟨fr,σ⟩=af (v,s₁))(hx:cA ρ o x)(hxs:bM ρ as xs)
  (q:KV B env fl up ρ s s₁.fr s₁.os v Q):wpAny (model B.pr B.w) A (call (.builtin "list.clear") (x::xs)) Q E s:=by
 refine listI e F hT hx λls p ys n i qK g1 g2 g3 hi e=>?_;refine Mh e hxs λq'4 e=>?_;refine yM e λh4 Es hv hs=>?_;subst qK;subst q'4;subst hv;subst hs;refine dZ (F.Ad (zs:=[]) (λzs=> #[]) Es hi g1 trivial (by exact iK rfl) s.toks) λa1 a2=>?_;exact mT si ⟨_,g1,rfl⟩ PySem.F.entry_list_clear (PySem.F.args_list_clear_1 _) (AutoSeq1.list_clear_list_0 p ys n (ai g3 (by decide))) ⟨g1,q _ _ _ a1 a2 rfl⟩
theorem Tr{x:ay}{xs:List ay}(F:Fits B ρ σ fr up env fl s)(hT:c.aj=B.aj)(e:SP c o as up.fz ⟨fr,σ⟩=af (v,s₁))(hx:cA ρ o x)(hxs:bM ρ as xs)
  (q:KV B env fl up ρ s s₁.fr s₁.os v Q):wpAny (model B.pr B.w) A (call (.builtin "list.pop") (x::xs)) Q E s:=by
 refine listI e F hT hx λls p ys n i qK g1 g2 g3 hi e=>?_;refine Mh e hxs λq'4 e=>?_;refine nE e λw j5 e=>?_;refine yM e λh4 Es hv hs=>?_;subst qK;subst q'4;subst hv;subst hs;have hl:=g2.length.trans cj;rw [List.getLast?_eq_getElem?] at j5;refine aR (g2.get j5) λy hy ry=>?_;have hk:=g2.PA;refine dZ (F.Ad (λxs=>xs.eraseIdxIfInBounds (ys.size-1)) Es hi g1 hk (ai (MeetsSeq.size_erased ..) g3) s.toks) λa1 a2=>?_;rw [hl,cS] at hy;exact mT PySem.F.slot_list_pop ⟨_,g1,rfl⟩ PySem.F.entry_list_pop (PySem.F.args_list_pop_1 _) (MeetsSeq.list_pop_last p ys n y hy (ai g3 (by decide))) ⟨g1,q _ _ _ a1 a2 ry⟩
open Classical in
theorem Mp{x:ay}{xs:List ay}(F:Fits B ρ σ fr up env fl s)(hT:c.aj=B.aj)(e:GU c o as up.fz ⟨fr,σ⟩=af (v,s₁))(hx:cA ρ o x)(hxs:bM ρ as xs)
  (q:KV B env fl up ρ s s₁.fr s₁.os v Q):wpAny (model B.pr B.w) A (call (.builtin "list.index") (x::xs)) Q E s:=by
 refine listE e F hT hx λls p ys n qK g1 g2 g3 e=>?_;refine wN e hxs λa y q'9 hy e=>?_;refine xB e λhz e=>?_;rw [aS] at hz;obtain ⟨h2,rfl⟩:=jB e;refine lmap h2 λj h3 q'7=>?_;subst qK;subst q'7;subst q'9;refine gc (kj hz.1 hy) λz t q'10 q'11=>?_;subst q'10;subst q'11;refine cO (AQ h3) λi q'12 k1 k2=>?_;obtain rfl:=q'12;refine aR (g2.get k1) λw hw So=>?_;rw [cS] at hw;obtain ⟨hlt,hw'⟩:=dM.mp hw;refine gc (kj rfl So) λz' t' e1 q'13=>?_;obtain rfl:=q'13;(injection e1 with e1;subst e1);rw [fD] at q;refine mT sk ⟨_,g1,rfl⟩ PySem.F.entry_list_index (PySem.F.args_list_index_2 _ _) (MeetsSeq.list_index p ys n (.str z t) (JZ z) (qz g2 hz.2) i hlt (SK (bS (ag hlt g3)) (by decide)) ?_ ?_) ⟨g1,q.toks F ⟨_,rfl⟩⟩
 ·rw [hw',Ac];simp
 ·intro m hm hmi;refine aR (g2.Dz (i:=m) (y:=ys[m]) (by refine (cS).trans ?_;exact Array.getElem?_eq_getElem hm)) λv' hv' rv'=>?_;have hs:isStr v'=ao:=bK.mp hz.2 v' (bN hv');refine gc (kj hs rv') λz'' t'' q'14 e2=>?_;obtain rfl:=q'14;rw [e2,Ac,decide_eq_false];intro e3;exact k2 m hmi (by rw [hv',e3])
theorem Mq{x:ay}{xs:List ay}(F:Fits B ρ σ fr up env fl s)(hT:c.aj=B.aj)(e:LM c o as up.fz ⟨fr,σ⟩=af (v,s₁))(hx:cA ρ o x)(hxs:bM ρ as xs)
  (q:KV B env fl up ρ s s₁.fr s₁.os v Q):wpAny (model B.pr B.w) A (call (.builtin "list.count") (x::xs)) Q E s:=by
 refine listE e F hT hx λls p ys n qK g1 g2 g3 e=>?_;refine wN e hxs λa y q'9 hy e=>?_;refine xB e λhz e=>?_;rw [aS] at hz;obtain ⟨rfl,rfl⟩:=aK e;subst qK;subst q'9;refine gc (kj hz.1 hy) λz t q'10 q'11=>?_;subst q'10;subst q'11;refine mT so ⟨_,g1,rfl⟩ PySem.F.entry_list_count (PySem.F.args_list_count_2 _ _) (MeetsSeq.list_count p ys n (.str z t) (JZ z) (qz g2 hz.2)) ⟨g1,?_⟩;show Q (.int (ys.toList.countP (JZ z):Nat) _) _;refine (Hp g2 hz.2)▸ ?_;exact q.toks F ⟨_,rfl⟩
end
theorem zE(l:List Str):lW ⟨#[]⟩ l=l.foldl (λa b=>a++b) ⟨#[]⟩:=by
 have go:∀(l:List Str) (acc:Array Nat),(⟨l.foldl (λacc p=>acc++(⟨#[]⟩:Str).cps++p.cps) acc⟩:Str)=l.foldl (λa b=>a++b) ⟨acc⟩:=by
  intro l;induction l with
  |nil=>intro acc;rfl
  |cons p r ih=>
   intro acc;rw [fK,fK,ih];show pV _ (⟨acc++ #[]++p.cps⟩:Str) r=pV _ (⟨acc++p.cps⟩:Str) r;rw [pW]
 unfold lW;induction l using aC with
 |nil=>rfl
 |cons p r=>
  simp only [vW,pS,List.headD_cons];rw [go,fK];congr 1;show p=(⟨#[]++p.cps⟩:Str);exact (pX)▸rfl
theorem yN(a b c:Str):a++b++c=a++(b++c):=by
 show (⟨a.cps++b.cps++c.cps⟩:Str)=⟨a.cps++(b.cps++c.cps)⟩;exact congrArg _ (xa)
theorem rQ(a:Str):(⟨#[]⟩:Str)++a=a:=by
 show (⟨#[]++a.cps⟩:Str)=a;exact congrArg _ (pX)
theorem Hq{t:Str}(h:zy xs=af t):∃l:List Str,xs=l.map .str/\∀a:Str,l.foldl (λa b=>a++b) a=a++t:=by
 induction xs generalizing t with
 |nil=>(injection h with h;subst h);exact ⟨[],rfl,λa=>by show a=(⟨a.cps++ #[]⟩:Str);exact (pW)▸rfl⟩
 |cons x r ih=>
  induction x using V.casesOn with
  |str s=>
   refine aR (bY.mp (show iE _ (zy r)=af t from h)) λu h1 q'1=>?_;obtain rfl:=q'1;refine aR (ih h1) λl q'2 h2=>?_;obtain rfl:=q'2;exact ⟨s::l,rfl,λa=>by rw [fK,h2,yN]⟩
  |_=>exact nn h
section
variable{k:Lv}
theorem Mr(h:bM ρ (l.map bp) ys):∃ts:List (Str × Tok),ys=strValues ts/\ts.map (·.1)=l:=by
 induction l generalizing ys with
 |nil=>induction ys using aC with
  |nil=>exact ⟨[],rfl,rfl⟩
  |cons _ _=>exact h.elim
 |cons x l ih=>induction ys using aC with
  |nil=>exact h.elim
  |cons y ys=>
   refine ei h.1 λt q=>aR (ih h.2) λts q' e=>?_;subst q;subst q';exact ⟨(x,t)::ts,rfl,congrArg (x:: ·) e⟩
theorem E5{w:Option V}{y:Option ay}(h:n8 ρ w y):cA ρ (w.getD .none) (y.getD .none):=by
 induction w using aw with
 |none=>subst h;rfl
 |some w=>exact aR h λz e r=>e▸r
theorem PB{x:ay}{xs:List ay}(F:Fits B ρ σ fr up env fl s)(hT:c.aj=B.aj)(e:LN c o as up.fz ⟨fr,σ⟩=af (v,s₁))(hx:cA ρ o x)(hxs:bM ρ as xs)
  (q:KV B env fl up ρ s s₁.fr s₁.os v Q):wpAny (model B.pr B.w) A (call (.builtin "dict.get") (x::xs)) Q E s:=by
 refine objE e λob h1 e=>?_;refine wN e hxs λa y q'4 hy e=>?_;subst q'4;refine ef e (λes w e1=>?_) (λ_ e1=>?_)
 ·obtain rfl:=qX w;refine Hb e1 hy λi t q'7 e2=>?_;subst q'7;obtain ⟨rfl,rfl⟩:=aK e2;refine dD (F.dictAt hT h1 hx) λp kvs q'5 g0 g g2 _=>?_;subst q'5;exact oF mC g.typeIs tI (sy _ _) (meets_dict_get (strKind B.pr B.w) _ AK g0) ⟨_,g.mapOf,q.toks F (E5 g2.find)⟩
 ·refine bZ e1 λes w e2=>?_;obtain rfl:=Po w;refine Ds e2 hy λi t q'7 e3=>?_;subst q'7;obtain ⟨rfl,rfl⟩:=aK e3;refine eu (F.IW hT h1 hx) λp kvs q'9 g0 g g2=>?_;subst q'9;exact oF mC g.typeIs tI (sy _ _) (meets_dict_get (iO B.pr B.w) _ RU g0) ⟨_,g.mapOf,q.toks F (E5 g2.find)⟩
theorem Ki{x:ay}{xs:List ay}(F:Fits B ρ σ fr up env fl s)(hT:c.aj=B.aj)(e:Di c o as up.fz ⟨fr,σ⟩=af (v,s₁))(hx:cA ρ o x)(hxs:bM ρ as xs)
  (q:KV B env fl up ρ s s₁.fr s₁.os v Q):wpAny (model B.pr B.w) A (call (.builtin "dict.values") (x::xs)) Q E s:=by
 refine objE e λob h1 e=>?_;refine bZ e λes w e1=>?_;obtain rfl:=qX w;refine bZ e1 λi w e2=>?_;obtain rfl:=qy w;refine Mh e2 hxs λq'4 e3=>?_;subst q'4;refine cT (eQ e3) λhz q'13 q'14=>?_;subst q'13;subst q'14;refine dD (F.dictAt hT h1 hx) λp kvs qK g0 g g2 _=>?_;have hi:=qY hx qK;subst qK;exact oF rG g.typeIs PySem.F.entry_dict_values (PySem.F.args_dict_values_1 _) (meets_dict_values (strKind B.pr B.w) p g0) ⟨⟨kvs,g⟩,q.alloc F ⟨p,hi,rfl⟩⟩
theorem PC{x:ay}{xs:List ay}(F:Fits B ρ σ fr up env fl s)(hT:c.aj=B.aj)(e:LO c o as up.fz ⟨fr,σ⟩=af (v,s₁))(hx:cA ρ o x)(hxs:bM ρ as xs)
  (q:KV B env fl up ρ s s₁.fr s₁.os v Q):wpAny (model B.pr B.w) A (call (.builtin "set.add") (x::xs)) Q E s:=by
 refine objE e λob h1 e=>?_;refine bZ e λes w e1=>?_;obtain rfl:=RP w;refine bZ e1 λi w e2=>?_;obtain rfl:=qy w;refine wN e2 hxs λa y q'4 hy e3=>?_;subst q'4;refine Hb e3 hy λ_ t q'7 e4=>?_;subst q'7;refine yM e4 λh4 Es hv hs=>?_;subst hv;subst hs;refine aR (F.Hd hT h1 hx) λp qK g=>?_;have hi:=qY hx qK;subst qK;have hz:=iK (show decide _=ao from h4);refine call_set_add AK rfl g ?_ λh' k1 k2=>?_
 ·show _<4096;split at hz
  ·exact aD (Nat.add_lt_add_right hz _) (ak rfl)
  ·simp at hz;exact Nat.lt_add_left _ hz
 ·rw [Kh λ_=>rfl] at k2;refine kg k2 λo es n t' m1 m2 m3 m4 m5 r'19=>?_;refine cT r'19 λm6 m7 m8=>?_;obtain ⟨a1,a2⟩:=F.setAt (o:=.set (if _∈_ then _ else _++ [_])) Es hi k1 m1 ⟨es,n,t',m2,m3,m4,m5,m6,m7,by
   refine (m8).trans ?_;split
   ·rename_i hm;exact (if_pos (iK hm))▸rfl
   ·rename_i hm;refine (if_neg (λh=>hm (decide_eq_true h)))▸ ?_;simp⟩ (s.toks+1)
  exact q _ _ _ a1 a2 rfl
theorem Ms{x:ay}{xs:List ay}(F:Fits B ρ σ fr up env fl s)(e:GV o as up.fz ⟨fr,σ⟩=af (v,s₁))(hx:cA ρ o x)(hxs:bM ρ as xs)
  (q:KV B env fl up ρ s s₁.fr s₁.os v Q):wpAny (model B.pr B.w) A (call (.builtin "str.lower") (x::xs)) Q E s:=by
 refine Hb e hx λ_ t q'7 e=>?_;subst q'7;refine Mh e hxs λq'4 e=>?_;subst q'4;refine xB e λhz e=>?_;obtain ⟨rfl,rfl⟩:=aK e;exact SCL.lower (by show BM _<=_;exact bR hz) λ_=>q.toks F ⟨_,rfl⟩
theorem Kj{x:ay}{xs:List ay}(F:Fits B ρ σ fr up env fl s)(e:Dj o as up.fz ⟨fr,σ⟩=af (v,s₁))(hx:cA ρ o x)(hxs:bM ρ as xs)
  (q:KV B env fl up ρ s s₁.fr s₁.os v Q):wpAny (model B.pr B.w) A (call (.builtin "str.index") (x::xs)) Q E s:=by
 refine Hb e hx λy t q'7 e=>?_;subst q'7;refine wN e hxs λa y' q'4 hy e=>?_;subst q'4;refine Hb e hy λz u q'8 e=>?_;subst q'8;obtain ⟨j2,rfl⟩:=jB e;refine lmap j2 λk h1 h2=>?_;subst h2;induction ho:fk y z 0 y.length 1 using aC with
 |nil=>rw [ho] at h1;exact kX h1
 |cons i rest=>
  rw [ho] at h1;injection h1 with h1;subst h1
  exact SC.index ho (q.toks F ⟨_,rfl⟩)
end
theorem xH(x:Str)(i:Nat):(iR x)[i]? =(x.cps[i]?).map λc=>bp ⟨#[c]⟩:=by
 unfold iR;rw [eg,cS]
theorem nR(x:Str):(iR x).length=x.cps.size:=by unfold iR;exact aH _
theorem DA{I:bj}{fp wr:List bj}{G:Array nM->Array nM->Prop}{P:Nat->ay->Prop}{St:Nat->aM->Prop}(W:WalksS prog w A I fp wr G n P St)(k:Nat)(P':Nat->ay->Prop)(hP:∀i v,P i v->P' (k+i) v):
  WalksS prog w A I fp wr G (k+n) P' (λi s=>∃j,i=k+j/\St j s) where
 sub:=W.sub
 grefl:=W.grefl
 gtrans:=W.gtrans
 frame:=λi s h' tk ⟨j,hj,st⟩ h1 h2=>⟨j,hj,W.frame j s h' tk st h1 h2⟩
 item:=λi s Q E hi ⟨j,hj,st⟩ hQ=>W.item j s Q E (Nat.lt_of_add_lt_add_left (hj▸hi)) st λv s' hp st' hm=>hQ v s' (hj▸hP j v hp) ⟨j+1,by exact congrArg (· +1) hj,st'⟩ hm
 done:=λs Q E ⟨j,hj,st⟩ hQ=>W.done s Q E (by rw [show n=j from Nat.add_left_cancel hj];exact st) hQ
 self:=λi s Q E ⟨j,hj,st⟩ hQ=>W.self j s Q E st hQ
theorem Hr(hh:A.handled=ae)(x:Str)(t:Tok)(l:bj)(ys:Array ay)(n:Nat)(hl:s.heap.get? l=af ⟨.type "list",ae,.seq ys n,#[]⟩)(hz:ys.size+x.cps.size<=1000000)
  (hQ:∀s' acc c',(∀b o,b≠l->s.heap.get? b=af o->s'.heap.get? b=af o)->s'.gens=s.gens->s'.drawn=s.drawn->s'.os=s.os->s'.heap.get? l=af ⟨.type "list",ae,.seq acc c',#[]⟩->
   acc.size=ys.size+x.cps.size->(∀j v,acc[j]? =af v->(j<ys.size->ys[j]? =af v)/\(ys.size<=j->SignAt x (j-ys.size) v))->Q .none s'):
  wpAny (model prog w) A (call (.builtin "list.extend") [.ref l,.str x t]) Q E s:=by
 refine oF (S:=λA' R s'=>A'.handled=ae/\s'=s/\∀s'',Q .none s''->R (.ok (.ret .none)) s'') kU ⟨_,hl,rfl⟩ qs (pY _ _) ?_ ⟨hh,rfl,λs'' h=>h⟩;intro A R s_0 ⟨hh,e,hR⟩;subst e;show wpAny _ A.in1 (oH (.ref l) (.str x t) .none) _ _ _;unfold oH;refine aB (wpAny_typeOf (T:= "str") (v:=.str x t) rfl ?_);have h1:Builtin.List.listSameRef (.ref l) (.str x t)=bc:=rfl;have h2:(gB "str" ==gB "list")=bc:=by decide
 have h3:(gB "str" ==gB "tuple")=bc:=by decide
 simp only [h1,h2,h3,Cr,dw,if_false];refine aB (wpAny_pyIter_str λo St W hst=>?_);refine aB (dX ?_);unfold Builtin.List.listLengthHint;refine aB (nZ (T:= "str") (v:=.str x t) rfl F.str_len ?_)
 wp_delta
 refine aB (wpAny_isInstance (T:= "str") (v:=.str x t) (b:=true) rfl (by rw [iY];kernel_rfl) ?_);show wpAny _ A.in1 (typeOf (kq x t)>>=_) _ _ _;refine aB (wpAny_typeOf (T:= "str") (v:=.str x t) rfl ?_);refine bG ?_;rw [if_neg (by decide)];have hlt:=dj hl;have hSf:l∉ [s_0.heap.objs.size]:=λhm=>by rw [aL.mp hm] at hlt;exact absurd hlt (aW _)
 have hS:(s_0.heap.push o).get? l=af ⟨.type "list",ae,.seq ys n,#[]⟩:=aP _ hl;have W':=DA (W A.in1 hh).toS ys.size (λj v=>(j<ys.size->ys[j]? =af v)/\(ys.size<=j->SignAt x (j-ys.size) v)) (λi v h=>⟨λh'=>absurd h' (cC.mpr (aF _ _)),λ_=>by rw [dO];exact h⟩);refine bG ⟨plainId_quiet F.plain_extend_loop _,codeAny_extend_loopS W' (by show _<=2^24;exact qk hz rfl) _ hSf _ x.cps.size ys.size _ _ _ (by exact dO _ _) (aF _ _) ⟨0,rfl,hst⟩ hS ⟨rfl,λj v h=>⟨λ_=>h,λh'=>?_⟩⟩ λs' acc' c' hm hS' hacc=>?_⟩
 ·have:=(dM.mp h).1;exact (aW _ (ag this h')).elim
 ·refine hR s' (hQ s' acc' c' (λb ob hb e=>hm.heap b ob (λhb'=>?_) (aP _ e)) hm.gens hm.drawn hm.os hS' hacc.1 hacc.2);rcases jJ hb' with h|h
  ·exact hb h
  ·rw [aL.mp h] at e;exact absurd (dj e) (aW _)
section
variable{k:Lv}
theorem bM.of_get(hl:xs.length=ys.length)(h:∀(i:Nat) (y:ay),ys[i]? =af y->∃x,xs[i]? =af x/\cA ρ x y):bM ρ xs ys:=by
 induction xs generalizing ys with
 |nil=>induction ys using aC with|nil=>trivial|cons _ _=>trivial
 |cons x xs ih=>
  induction ys using aC with
  |nil=>trivial
  |cons y ys=>
   refine ⟨?_,ih (by simpa using hl) λi y' hy=>?_⟩
   ·refine aR (h 0 y (by rfl)) λx' h1 h2=>?_;simp at h1;subst h1;exact h2
   ·simpa using h (i+1) y' (by simpa using hy)
theorem PD{ys acc:Array ay}(g2:bM ρ xs ys.toList)(k6:acc.size=ys.size+x.cps.size)
  (k7:∀(j:Nat) (v:ay),acc[j]? =af v->(j<ys.size->ys[j]? =af v)/\(ys.size<=j->SignAt x (j-ys.size) v)):bM ρ (xs++iR x) acc.toList:=by
 have hl:=g2.length.trans cj;refine bM.of_get (by rw [aq,nR,hl,cj,k6]) (λi y hy=>?_);rw [cS] at hy;obtain ⟨j1,j2⟩:=k7 i y hy;rcases et i ys.size with hlt|hge
 ·refine aR (g2.Dz (i:=i) (y:=y) (by refine (cS).trans ?_;exact j1 hlt)) λv' w1 w2=>?_;exact ⟨v',by refine (aJ (ag hlt (ar hl.symm))).trans ?_;exact w1,w2⟩
 ·refine gc (j2 hge) λcc u w1 q'1=>?_;obtain rfl:=q'1;refine ⟨.str ⟨#[cc]⟩,?_,⟨u,rfl⟩⟩;rw [bT (ai (ar hl) hge),xH,hl,w1];rfl
theorem Kk{x:ay}{xs:List ay}(r:kE A k)(BG:k.hd=ao)(F:Fits B ρ σ fr up env fl s)(hT:c.aj=B.aj)(e:Dh c o as up.fz ⟨fr,σ⟩=af (v,s₁))(hx:cA ρ o x)(hxs:bM ρ as xs)
  (q:KV B env fl up ρ s s₁.fr s₁.os v Q):wpAny (model B.pr B.w) A (call (.builtin "list.extend") (x::xs)) Q E s:=by
 refine listI e F hT hx λls p ys n i qK g1 g2 g3 hi e=>?_;refine wN e hxs λa y q'4 hy e=>?_;refine ef e (λw0 w e=>?_) λ_ e=>?_;rotate_left
 ·refine listE e F hT hy λzs p' ys' n' q'8 GF O7 Vt e=>?_;refine yM e λh4 Es hv hs=>?_;subst qK;subst q'4;subst q'8;subst hv;subst hs;have hl:=g2.length.trans cj;have hl':=O7.length.trans cj;have hz:=iK (show decide _=ao from h4);rw [aq] at hz;have hk:=g2.toArray O7;obtain ⟨a1,a2⟩:=F.Ad (λzs=>zs++ys') Es hi g1 hk (by refine lV▸ ?_;exact hl▸hl'▸hz) s.toks;exact mT kU ⟨_,g1,rfl⟩ qs (pY _ _) (AutoSeq1.list_extend_list_list_0 p ys n p' ys' n' (by
   have:rH (ys.size+ys'.size)=bc:=by unfold rH;rw [decide_eq_false];show¬_>2^24;exact hl▸hl'▸cC.mpr (qk hz rfl)
   refine this▸ ?_;simp) (by show _<=2^24;exact Pa hl (ai (aF _ _) hz) rfl) (by show _<=2^24+1;exact hl▸hl'▸qk hz rfl)) ⟨g1,GF,q _ _ _ a1 a2 rfl⟩
 obtain rfl:=nD w;obtain ⟨t,q'7⟩:=hy;refine xB e λhz e=>?_;refine yM e λh4 Es hv hs=>?_;subst qK;subst q'4;subst q'7;subst hv;subst hs;have hl:=g2.length.trans cj;refine Hr (r.hd BG) _ t p ys n g1 (ai (cg (ar hl.symm) _) hz) λs' acc c' k1 k2 k3 k4 k5 k6 k7=>?_;have rel:=PD g2 k6 k7;refine dZ (F.Dy (o:=.list (_++iR _)) Es hi k1 k5 ⟨acc,c',rfl,rel,ai (ai (ar k6) (cg (ar hl.symm) _)) hz⟩ k2 k3 k4) λa1 a2=>?_;exact q _ _ _ a1 a2 rfl
theorem Hs(l:List Str):∀n:Nat,(l.toArray.foldl (λ(n:Nat) (x:Str)=>n+x.length+(⟨#[]⟩:Str).length) n)=n+(l.map (·.cps.size)).sum:=by
 intro n;rw [←Array.foldl_toList];simp only;induction l generalizing n with
 |nil=>rfl
 |cons x r ih=>
  rw [fK,ih,bx,jF];show n+x.cps.size+0+_=_;lia
theorem Kl(l:List Str):∀a:Str,(l.foldl (λa b=>a++b) a).cps.size=a.cps.size+(l.map (·.cps.size)).sum:=by
 induction l with
 |nil=>intro a;rfl
 |cons x r ih=>
  intro a;rw [fK,ih,bx,jF];show (a.cps++x.cps).size+_=_;refine lV▸ ?_;exact dC _ _ _
theorem PE{x:ay}{xs:List ay}(F:Fits B ρ σ fr up env fl s)(hT:c.aj=B.aj)(e:IG c o as up.fz ⟨fr,σ⟩=af (v,s₁))(hx:cA ρ o x)(hxs:bM ρ as xs)
  (q:KV B env fl up ρ s s₁.fr s₁.os v Q):wpAny (model B.pr B.w) A (call (.builtin "str.join") (x::xs)) Q E s:=by
 refine Hb e hx λ_ tk q'7 e=>?_;subst q'7;refine wN e hxs λa y q'4 hy e=>?_;subst q'4;refine xB e λhs e=>?_;subst hs;refine listE e F hT hy λls p ys n qK g1 g2 g3 e=>?_;subst qK;refine nE e λt j2 e=>?_;refine xB e λhz e=>?_;obtain ⟨rfl,rfl⟩:=aK e;refine aR (Hq j2) λl q'11 hl=>?_;obtain rfl:=q'11;refine aR (Mr g2) λts e1 e2=>?_;have e3:ys=(strValues ts).toArray:=by exact (e1).symm▸rfl
 have hg:l.foldl (λa b=>a++b) ⟨#[]⟩=t:=by rw [hl,rQ]
 have hsz:(l.map (·.cps.size)).sum=t.cps.size:=by rw [←hg,Kl];simp
 refine mT PySem.F.slot_str_join (typeIs_str ..) PySem.F.entry_str_join (PySem.F.args_str_join_2 _ _) (meets_str_join_list _ tk p ts ?_) ⟨⟨_,g1,rfl,n,by exact (e3)▸rfl⟩,?_⟩
 ·rw [e2,Hs,hsz];have:¬(0+t.cps.size>sizeLine):=by show¬(_>2^24);exact cC.mpr (qk (ai (ar (fD _)) hz) rfl)
  exact decide_eq_false this
 ·match ts,e2 with
  | [p1],e2=>
   subst e2;simp at hg;subst hg;show Q _ _;refine q.same F ⟨p1.2,?_⟩;rw [rQ]
  | [],e2=>
   show (lW _ _).length<=_/\Q _ _;rw [e2,zE,hg];exact ⟨by show BM _<=2^24;exact qk hz rfl,q.toks F ⟨_,rfl⟩⟩
  |p1::p2::r,e2=>
   show (lW _ _).length<=_/\Q _ _;rw [e2,zE,hg];exact ⟨by show BM _<=2^24;exact qk hz rfl,q.toks F ⟨_,rfl⟩⟩
end
theorem oP{I:bj}{fp wr:List bj}{P P':Nat->ay->Prop}(W:Walks prog w A I fp wr n P St)(h:∀i v,P i v->P' i v):Walks prog w A I fp wr n P' St where
 sub:=W.sub
 frame:=W.frame
 item:=λi s Q E hi st hQ=>W.item i s Q E hi st λv h' tk hp=>hQ v h' tk (h i v hp)
 done:=W.done
 self:=W.self
noncomputable def mX(o:Obj):Bool:=match o.cls with
 | .type n=> !["enumerate","zip","dict_itemiterator","dict_reverseitemiterator","odict_iterator","itertools.zip_longest","itertools.pairwise"].contains n
 |_=>ao
structure Iter(B:lH)(ρ:List bj)(src:Src)(I:bj)(fp:List bj)(St:Nat->pQ->Prop):Prop where
 walks:∀A:iW,A.handled=ae->Walks B.pr B.w A I fp [I] src.items.length (λi v=>∃it,src.items[i]? =af it/\cA ρ it v) St
 fp:∀b∈fp,b=I∨(∃i,src.fz=af i/\ρ[i]? =af b)∨∃o,B.h₀.get? b=af o
 cls:∀i h,St i h->∃o,h.get? I=af o/\mX o=ao
section
variable{k:Lv}
theorem cW.RW:∀{es:List (K × V)}{kvs:List (K × ay)}{i:Nat}{kv:K × ay},cW ρ es kvs->kvs[i]? =af kv->∃v,es[i]? =af (kv.1,v)/\cA ρ v kv.2:=by
 intro es;induction es with
 |nil=>intro kvs i kv R h;obtain ⟨⟩:=kvs<;>first|(trivial;done)|obtain ⟨⟩:=R
 |cons e es ih=>
  intro kvs i kv R h;induction kvs using aC with
  |nil=>obtain ⟨⟩:=R
  |cons y kvs=>
   induction i using lE with
   |zero=>obtain ⟨⟩:=h;exact ⟨e.2,congrArg (λk=>af (k,e.2)) R.1.1,R.1.2⟩
   |succ i=>exact ih R.2 h
theorem Fits.E6(F:Fits B ρ σ fr up env fl s)(e:σ[i]? =af (.dict es))(hv:cA ρ (.ref i) val):
  ∃a kvs ep,val= .ref a/\ρ[i]? =af a/\(a==sysModules)=bc/\s.heap.DictAt (strKind B.pr B.w) a kvs ep/\cW ρ es kvs:=by
 refine dD (F.ref e hv) λa r h1 h2 h3 q'1 g7=>?_;obtain ⟨ds,n,kvs,g1,g2,g3,g4,g5,g6⟩:=q'1;exact ⟨a,kvs,n,h1,h2,F.Hc h2,⟨r,ds,h3,g1,g2,g3,g4,g5⟩,g6⟩
def KI(B:lH)(ρ:List bj)(s:aM)(src:Src)(Q:ay->aM->Prop):Prop:=∀o St fp,Iter B ρ src s.heap.objs.size fp St->St 0 (s.heap.push o)->Q (.ref s.heap.objs.size) {s with heap:=s.heap.push o}
theorem Ht{a b kk:Int}{t1 t2 t3:Tok}{p:bj}(g1:s.heap.get? p=af ⟨.type "range",ae,.fields #[.int a t1,.int b t2,.int kk t3],#[]⟩)(h0:0<kk)(hs:iM a b kk=ao)
  (q:KI B ρ s ⟨qW a b kk,ae⟩ Q):wpAny (model B.pr B.w) A (rD (.ref p)) Q E s:=by
 have hn:0<=d9 a b kk:=by
  unfold d9;refine (if_pos h0)▸ ?_;split
  ·have:0<=(b-a-1)/kk:=Int.ediv_nonneg (by lia) (tH h0);exact Int.add_nonneg this (by decide)
  ·decide
 refine wpAny_pyIter_range g1 hs (q _ (λi h=>IsRangeIter h s.heap.objs.size (a+(i:Nat)*kk) (((d9 a b kk).toNat:Int)-(i:Nat)) kk) [s.heap.objs.size] ⟨λA' hA=>?_,λb hb=>.inl (aL.mp hb),λi h st=>?_⟩ ?_)
 ·show Walks _ _ _ _ _ _ (qW a b kk).length _ _;rw [show (qW a b kk).length=(d9 a b kk).toNat by unfold qW;simp];have W:=Walks.range (prog:=B.pr) (w:=B.w) hA s.heap.objs.size a kk (d9 a b kk).toNat;refine Walks.mk W.sub W.frame (λi s Q E hi st hQ=>W.item i s Q E hi st λv h' tk hp=>hQ v h' tk ?_) W.done W.self;obtain ⟨t,rfl⟩:=hp;refine ⟨.int (a+(i:Int)*kk),?_,t,rfl⟩;unfold qW;rw [eg,List.getElem?_range hi];rfl
 ·exact ⟨_,st,by unfold mX;simp only;decide⟩
 ·show (s.heap.push _).get? s.heap.objs.size=_;refine (dc _ rfl).trans ?_;simp [vX hn]
theorem Mt{z:Str}{t:Tok}(q:KI B ρ s ⟨iR z,ae⟩ Q):wpAny (model B.pr B.w) A (rD (.str z t)) Q E s:=by
 have hP:∀(i:Nat) (v:ay),SignAt z i v->∃it,(iR z)[i]? =af it/\cA ρ it v:=λi v ⟨cc,u,h1,h2⟩=>⟨.str ⟨#[cc]⟩,by rw [xH,h1];rfl,u,h2⟩;cases ha:z.cps.all (· <128)
 ·refine wpAny_pyIter_wide ha (q _ (λi h=>h.IsStrIter s.heap.objs.size "str_iterator" z t i) [s.heap.objs.size] ⟨λA' hA=>?_,λb hb=>.inl (aL.mp hb),λi h st=>?_⟩ ⟨_,dc _ rfl,rfl,rfl⟩)
  ·rw [nR];exact oP (Walks.strWide hA _ z t) hP
  ·refine cO st λo h1 h2 h3=>?_;exact ⟨o,h1,by unfold mX;refine h2▸ ?_;decide⟩
 ·refine wpAny_pyIter_ascii ha (q _ (λi h=>h.IsStrIter s.heap.objs.size "str_ascii_iterator" z t i) [s.heap.objs.size] ⟨λA' hA=>?_,λb hb=>.inl (aL.mp hb),λi h st=>?_⟩ ⟨_,dc _ rfl,rfl,rfl⟩)
  ·rw [nR];exact oP (Walks.strAscii hA _ z t) hP
  ·refine cO st λo h1 h2 h3=>?_;exact ⟨o,h1,by unfold mX;refine h2▸ ?_;decide⟩
theorem Km{p:bj}{ys:Array ay}(g1:s.heap.get? p=af ⟨.type "list",ae,.seq ys n,#[]⟩)(g2:bM ρ xs ys.toList)(hi:ρ[i]? =af p)(q:KI B ρ s ⟨xs,af i⟩ Q):wpAny (model B.pr B.w) A (rD (.ref p)) Q E s:=by
 have fresh:∀{a:bj}{o:Obj},s.heap.get? a=af o->a≠s.heap.objs.size:=λh=>bP (dj h);have hl:=g2.length.trans cj;refine wpAny_pyIter_list ⟨_,g1,rfl,n,rfl⟩ (q _ (λi h=>h.IsListIter s.heap.objs.size p i/\h.IsList p ys) [s.heap.objs.size,p] ⟨λA' hA=>?_,λb hb=>?_,λi h st=>?_⟩
  ⟨⟨_,dc _ rfl,rfl,rfl⟩,⟨_,aP _ g1,rfl,n,rfl⟩⟩)
 ·refine hl▸ ?_;exact oP (Walks.list hA _ p (fresh g1) ys) λi v h=>g2.Dz (by refine (cS).trans ?_;exact h)
 ·rcases jJ hb with h|h
  ·exact .inl h
  ·exact .inr (.inl ⟨_,rfl,by rw [aL.mp h];exact hi⟩)
 ·obtain ⟨⟨o,k1,k2,k3⟩,_⟩:=st;exact ⟨o,k1,by unfold mX;refine k2▸ ?_;decide⟩
theorem iter_tuple{p:bj}{ys:Array ay}(g1:s.heap.get? p=af ⟨.type "tuple",ae,.seq ys n,#[]⟩)(g2:bM ρ xs ys.toList)(hi:ρ[i]? =af p)(q:KI B ρ s ⟨xs,af i⟩ Q):wpAny (model B.pr B.w) A (rD (.ref p)) Q E s:=by
 have fresh:∀{a:bj}{o:Obj},s.heap.get? a=af o->a≠s.heap.objs.size:=λh=>bP (dj h);have hl:=g2.length.trans cj;refine wpAny_pyIter_tuple ⟨_,g1,rfl,n,rfl⟩ (q _ (λi h=>h.IsTupleIter s.heap.objs.size p i/\h.IsTuple p ys) [s.heap.objs.size,p] ⟨λA' hA=>?_,λb hb=>?_,λi h st=>?_⟩
  ⟨⟨_,dc _ rfl,rfl,rfl⟩,⟨_,aP _ g1,rfl,n,rfl⟩⟩)
 ·refine hl▸ ?_;exact oP (Walks.tuple hA _ p (fresh g1) ys) λi v h=>g2.Dz (by refine (cS).trans ?_;exact h)
 ·rcases jJ hb with h|h
  ·exact .inl h
  ·exact .inr (.inl ⟨_,rfl,by rw [aL.mp h];exact hi⟩)
 ·obtain ⟨⟨o,k1,k2,k3⟩,_⟩:=st;exact ⟨o,k1,by unfold mX;refine k2▸ ?_;decide⟩
theorem Kn{x:ay}(F:Fits B ρ σ fr up env fl s)(Ik:σ[i]? =af (.dict es))(hx:cA ρ (.ref i) x)(q:KI B ρ s ⟨es.map λe=>.str e.1,af i⟩ Q):wpAny (model B.pr B.w) A (rD x) Q E s:=by
 have fresh:∀{a:bj}{o:Obj},s.heap.get? a=af o->a≠s.heap.objs.size:=λh=>bP (dj h);refine jV (F.E6 Ik hx) λp kvs ep qK hi g0 g1 g2=>?_;subst qK;refine gc (id g1) λo1 es1 go _=>?_;refine wpAny_pyIter_dict g0 g1 (q _ (λi h=>h.IsKeyIter s.heap.objs.size p i kvs.length ep/\h.DictAt (strKind B.pr B.w) p kvs ep) [s.heap.objs.size,p] ⟨λA' hA=>?_,λb hb=>?_,λi h st=>?_⟩
  ⟨⟨_,dc _ rfl,rfl,rfl⟩,g1.push _⟩)
 ·simp only [aH];rw [g2.length];refine oP (Walks.dictKeys hA _ p (fresh go) kvs ep) λi v h=>?_;refine gc h λkk xx h2 h3=>?_;refine aR (g2.RW h2) λw h4 h5=>?_;obtain ⟨t,rfl⟩:=Value.isStrOf_shape h3;exact ⟨.str kk,by simp [h4],t,rfl⟩
 ·rcases jJ hb with h|h
  ·exact .inl h
  ·exact .inr (.inl ⟨_,rfl,by rw [aL.mp h];exact hi⟩)
 ·obtain ⟨⟨o,k1,k2,k3⟩,_⟩:=st;exact ⟨o,k1,by unfold mX;refine k2▸ ?_;decide⟩
theorem Ko{pv:bj}(F:Fits B ρ σ fr up env fl s)(Zl:σ[i]? =af (.dict es))(g0:ρ[i]? =af a)(gv:s.heap.get? pv=af ⟨.type "dict_values",ae,.fields #[.ref a],#[]⟩)(q:KI B ρ s ⟨es.map λe=>e.2,af i⟩ Q):wpAny (model B.pr B.w) A (rD (.ref pv)) Q E s:=by
 have fresh:∀{a:bj}{o:Obj},s.heap.get? a=af o->a≠s.heap.objs.size:=λh=>bP (dj h);refine jV (F.E6 Zl ⟨a,g0,rfl⟩) λp kvs ep qK hi g0' g1 g2=>?_;(injection qK with qK;subst qK);refine gc (id g1) λo1 es1 go _=>?_;refine wpAny_pyIter_values (v:=pv) ⟨_,gv,rfl,rfl⟩ g1 (q _ (λi h=>h.IsValIter s.heap.objs.size a i kvs.length ep/\h.DictAt (strKind B.pr B.w) a kvs ep) [s.heap.objs.size,a] ⟨λA' hA=>?_,λb hb=>?_,λi h st=>?_⟩
  ⟨⟨_,dc _ rfl,rfl,rfl⟩,g1.push _⟩)
 ·simp only [aH];rw [g2.length];refine oP (Walks.dictValues hA _ a (fresh go) kvs ep) λi v h=>?_;obtain ⟨kk,h2⟩:=h;refine aR (g2.RW h2) λw h4 h5=>?_;exact ⟨w,by simp [h4],h5⟩
 ·rcases jJ hb with h|h
  ·exact .inl h
  ·exact .inr (.inl ⟨_,rfl,by rw [aL.mp h];exact hi⟩)
 ·obtain ⟨⟨o,k1,k2,k3⟩,_⟩:=st;exact ⟨o,k1,by unfold mX;refine k2▸ ?_;decide⟩
theorem qA{x:ay}{src:Src}(F:Fits B ρ σ fr up env fl s)(H:eh c B)(e:gI c v up.fz ⟨fr,σ⟩=af (src,s₁))(hx:cA ρ v x)
  (q:∀o St fp,Iter B ρ src s.heap.objs.size fp St->St 0 (s.heap.push o)->Q (.ref s.heap.objs.size) {s with heap:=s.heap.push o}):s₁=⟨fr,σ⟩/\c.hd=ao/\wpAny (model B.pr B.w) A (rD x) Q E s:=by
 have hT:=H.aj;refine VA λC hC=>?_;refine xB e λBG e=>?_;refine ef e (λz w e=>?_) (λ_ e=>?_)
 ·obtain ⟨rfl,rfl⟩:=aK e;rw [nD w] at hx;exact hC (lG hx λt ht=>⟨rfl,BG,ht▸Mt q⟩)
 refine bZ e λi w e=>?_;rw [qy w] at hx;refine objE e λob h1 e=>?_;refine ef e (λls w e=>?_) (λ_ e=>?_)
 ·obtain ⟨rfl,rfl⟩:=aK e;refine hC ⟨rfl,BG,vQ (Ab w) (λw=>?_) λw=>?_⟩
  ·subst w;refine b8 (F.jC hT h1 hx) λp ys n qK g1 g2 g3=>?_;have hi:=qY hx qK;subst qK;exact Km g1 g2 hi q
  ·subst w;refine b8 (F.mH hT h1 hx) λp ys n qK g1 g2 g3=>?_;have hi:=qY hx qK;subst qK;exact iter_tuple g1 g2 hi q
 refine ef e (λls w e=>?_) (λ_ e=>?_)
 ·rw [qX w] at h1;obtain ⟨rfl,rfl⟩:=aK e;exact hC ⟨rfl,BG,Kn F (uH h1).1 hx q⟩
 refine ef e (λls w e=>?_) (λ_ e=>?_)
 ·rw [Pp w] at h1;refine xB e λhz e=>?_;obtain ⟨rfl,rfl⟩:=aK e;refine hC ⟨rfl,BG,?_⟩;refine dZ (F.obj hT h1 hx) λ_ r'4=>?_;refine ck r'4 λp r q'2 g1 r'5=>?_;refine sO r'5 λt1 t2 t3 q'3=>?_;subst q'2;subst q'3;exact Ht g1 hz.1 hz.2 q
 ·refine bZ e λd w e=>?_;rw [L6 w] at h1;refine objE e λob' h5 e=>?_;refine bZ e λes w e=>?_;rw [qX w] at h5;obtain ⟨rfl,rfl⟩:=aK e;refine hC ⟨rfl,BG,?_⟩;refine dZ (F.obj hT h1 hx) λ_ r'8=>?_;refine ck r'8 λpv r q'6 gv r'9=>?_;refine aR r'9 λa g0 q'7=>?_;subst q'6;subst q'7;exact Ko F (uH h5).1 g0 gv q
end
def VV(ρ:List bj):Fl->Flow->Prop
 | .next,f=>f= .next
 | .brk,f=>f= .brk
 | .cont,f=>f= .cont
 | .ret v,f=>∃x,f= .ret x/\cA ρ v x
 | .exc _,_=>False
noncomputable def Up.gG(up:Up)(o:Option Nat):Up:={up with fz:=o.toList++up.fz}
section
variable{ρ_0:List bj}{k:Lv}
theorem Fits.gG(F:Fits B ρ σ fr up env fl s)(o:Option Nat):Fits B ρ σ fr (up.gG o) env fl s:=
 ⟨F.rep,⟨F.mw.loc,F.mw.G9,F.mw.ES,F.mw.OZ⟩,F.ok,F.rO,F.oY,F.jK,F.mG,F.oZ,F.gens,F.L8,F.Dr⟩
theorem Fits.E7{o:Option Nat}(F:Fits B ρ σ fr (up.gG o) env fl s):Fits B ρ σ fr up env fl s:=
 ⟨F.rep,⟨F.mw.loc,F.mw.G9,F.mw.ES,F.mw.OZ⟩,F.ok,F.rO,F.oY,F.jK,F.mG,F.oZ,F.gens,F.L8,F.Dr⟩
theorem Step.E7{o:Option Nat}(x:Step ρ (wr (up.gG o) env) s ρ' s'):Step ρ (wr up env) s ρ' s':=
 ⟨x.ext,x.live,λb o h1 h2 h3=>x.keep b o h1 (h2.imp id λ⟨i,hi,h⟩=>⟨i,cH _ hi,h⟩) h3,x.wM,x.gens,x.os,x.drawn⟩
theorem Step.iter{W:Wr}{I:bj}(x:Step ρ W s ρ' s')(hI:s.heap.get? I=ae)(hk:∀b o,b≠I->s'.heap.get? b=af o->h'.get? b=af o):Step ρ W s ρ' {s' with heap:=h',toks:=tk}:=by
 have ne:∀b o,s.heap.get? b=af o->b≠I:=λb o h e=>by subst e;rw [hI] at h;exact nn h
 exact ⟨x.ext,λb o h=>let ⟨o',h'⟩:=x.live b o h;⟨o',hk b o' (ne b o h) h'⟩,λb o h h2 h3=>hk b o (ne b o h) (x.keep b o h h2 h3),λb hb hl o e=>let ⟨o',e',d'⟩:=x.wM b hb hl o e;⟨o',hk b o' (ne b o e) e',d'⟩,x.gens,x.os,x.drawn⟩
theorem Fits.iter{I:bj}(F:Fits B ρ σ fr up env fl s)(hI:I∉ρ)(hO:I∉own env)(hB:B.h₀.get? I=ae)(hF:I∉up.kD)(hk:∀b o,b≠I->s.heap.get? b=af o->h'.get? b=af o)(tk:Nat):
  Fits B ρ σ fr up env fl {s with heap:=h',toks:=tk}:=by
 refine ⟨F.rep.other λb o e hb=>hk b o (by
   rintro rfl;rcases hb with h|h
   ·exact hI h
   ·rw [hB] at h;exact nn h) e,F.mw.keep (Ext.refl _) λa ha o e=>hk a o (by rintro rfl;exact hO ha) e,F.ok,F.rO,F.oY,λa ha=>let ⟨o,h⟩:=F.jK a ha;⟨o,hk a o (by rintro rfl;exact hO ha) h⟩,F.mG,F.oZ,F.gens,F.L8,λL hL=>?_⟩
 refine iz (F.Dr L hL) λh3 h4 h5 r'1=>?_;refine gb r'1 λo es n h6 h7=>?_;exact ⟨h3,h4,h5,o,es,n,hk L o (by rintro rfl;exact hF hL) h6,h7⟩
theorem Iter.stays{src:Src}{I:bj}{fp:List bj}(It:Iter B ρ_0 src I fp St)(hA:A.handled=ae)(F:Fits B ρ σ fr (up.gG src.fz) env fl s)(x:Ext ρ_0 ρ)(hI:I∉ρ)(hO:I∉own env)(hF:I∉up.kD)
  (st:St i s.heap) (hs:Step ρ (wr (up.gG src.fz) env) s ρ' s') (F':Fits B ρ' σ' ej (up.gG src.fz) env fl s'):St i s'.heap/\I∉ρ':=by
 refine aR (It.cls i _ st) λo ho _=>?_;refine ⟨(It.walks A hA).frame i _ _ st λb hb ob e=>?_,?_⟩
 ·rcases It.fp b hb with rfl|⟨j,h1,h2⟩|⟨o',h1⟩
  ·exact hs.keep _ _ e (.inl hI) λh=>(aG.mp h).elim hO hF
  ·have h3:=x.at h2;refine hs.keep _ _ e (.inr ⟨j,?_,h3⟩) (F.Ti (bN h3));show j∈src.fz.toList++up.fz;refine h1▸ ?_;exact fg
  ·have:=F.base _ _ h1;rw [e] at this;(injection this with this;subst this);exact F'.base _ _ h1
 ·refine aR hs.ext λm e hm=>?_;refine e▸ ?_;intro h;rcases aG.mp h with h|h
  ·exact hI h
  ·rw [hm I h] at ho;exact nn ho
theorem Hu{src:Src}{I:bj}{fp:List bj}{target:Expr}{body:List fV}{turn:V->M Fl}{o:Obj}{f:Fl}(hA:A.handled=ae)
  (F_0:Fits B ρ_0 σ fr up env fl s) (hI:I=s.heap.objs.size) (It:Iter B ρ_0 src I fp St) (O8:St 0 (s.heap.push o))
  (hown:∀i h y (s':aM) (Q:Unit->aM->Prop) E',St i h->s'.heap=h->Q () s'->wpAny (model B.pr B.w) A (lr target (.ref I) y) Q E' s')
  (e:fQ turn src.items (up.gG src.fz).fz ⟨fr,σ⟩=af (f,s₁))
  (ht:∀v y fr σ f s₁ ρ s (Q:Flow->aM->Prop) E',turn v (up.gG src.fz).fz ⟨fr,σ⟩=af (f,s₁)->(∀i,f≠ .exc i)->Fits B ρ σ fr (up.gG src.fz) env fl s->cA ρ v y->
   (∀ρ' s' tZ,Step ρ (wr (up.gG src.fz) env) s ρ' s'->Fits B ρ' s₁.os s₁.fr (up.gG src.fz) env fl s'->VV ρ' f tZ->Q tZ s')->
   wpAny (model B.pr B.w) A (assign target env y) (λ_ s_2=>wpAny (model B.pr B.w) A (execs body env) Q E' s_2) E' s)
  (q:∀ρ' s' tZ,Step ρ_0 (wr up env) s ρ' s'->Fits B ρ' s₁.os s₁.fr up env fl s'->VV ρ' f tZ->R (.ok tZ) s'):
  gK (model B.pr B.w) A (.forLoop target (.ref I) body [] env) R {s with heap:=s.heap.push o}:=by
 have fresh:s.heap.get? I=ae:=by refine hI▸ ?_;exact lu
 have hO:I∉own env:=λh=>by obtain ⟨o,ho⟩:=F_0.jK I h;rw [fresh] at ho;exact nn ho
 have OE:I∉ρ_0:=λh=>absurd (F_0.rep.lt h) (by rw [hI];exact aW _);have hB:B.h₀.get? I=ae:=by refine hI▸ ?_;exact F_0.rep.fresh
 have hF:I∉up.kD:=F_0.xC fresh;have W:=It.walks A hA;obtain ⟨stH,FH⟩:=F_0.hidden o s.toks;refine codeAny_forLoop_any (λn s'=>∃ρ' i ej σ',n=src.items.length+1-i/\i<=src.items.length/\St i s'.heap/\Step ρ_0 (wr up env) s ρ' s'/\I∉ρ'/\Fits B ρ' σ' ej (up.gG src.fz) env fl s'/\fQ turn (src.items.drop i) (up.gG src.fz).fz ⟨ej,σ'⟩=af (f,s₁))
  ?_ (src.items.length+1) ⟨ρ_0,0,fr,σ,rfl,fm _,O8,stH,OE,FH.gG _,e⟩
 rintro n s' ⟨ρ',i,ej,σ',rfl,hi,st,hst,hIn,F',e'⟩;rcases et i src.items.length with hlt|hge
 ·refine W.item i s' _ _ hlt st λv h' tk ⟨it,hit,hv⟩ st' hk=>?_;have hk':∀b o,b≠I->s'.heap.get? b=af o->h'.get? b=af o:=λb o hb e=>hk b o (by simpa using hb) e;have F2:=F'.iter hIn hO hB hF hk' tk;have st2:=hst.iter (tk:=tk) fresh hk';have hd:src.items.drop i=it::src.items.drop (i+1):=by
   obtain ⟨h1,h2⟩:=cP.mp hit;rw [fM h1,h2]
  rw [hd] at e';refine bQ e' λf' s_2 h1 e'=>?_;refine hown (i+1) h' v _ _ _ st' rfl ?_;have wu:∀j,f'≠ .exc j:=λj hj=>by subst hj;exact nn e'
  refine ht it v ej σ' f' s_2 ρ' _ _ _ h1 wu F2 (hv.ext hst.ext') λLl s'' tZ Gl zb hfl=>?_;obtain ⟨st3,Rq⟩:=It.stays hA F2 hst.ext' hIn hO hF st' Gl zb;have total:=st2.trans Gl.E7;obtain ⟨wq,σ_2⟩:=s_2;induction f' using Fl.casesOn with
  |next=>subst hfl;exact ⟨_,oo (gw hlt) (bU _),Ll,i+1,wq,σ_2,rfl,by exact hlt,st3,total,Rq,zb,e'⟩
  |cont=>subst hfl;exact ⟨_,oo (gw hlt) (bU _),Ll,i+1,wq,σ_2,rfl,by exact hlt,st3,total,Rq,zb,e'⟩
  |brk=>subst hfl;obtain ⟨rfl,rfl⟩:=aK e';exact q _ _ _ total zb.E7 rfl
  |ret w=>refine aR hfl λx q'2 hx=>?_;obtain rfl:=q'2;obtain ⟨rfl,rfl⟩:=aK e';exact q _ _ _ total zb.E7 ⟨x,rfl,hx⟩
  |exc j=>exact absurd rfl (wu j)
 ·have hi':i=src.items.length:=by exact hV hi hge
  subst hi';refine W.done s' _ _ st λh' tk hk=>?_;have hk':∀b o,b≠I->s'.heap.get? b=af o->h'.get? b=af o:=λb o hb e=>hk b o (by simpa using hb) e;rw [zf] at e';obtain ⟨rfl,rfl⟩:=aK e';exact t7 (q _ _ _ (hst.iter fresh hk') (F'.iter hIn hO hB hF hk' tk).E7 rfl)
end
theorem compTurn_gen{target iter:au}{ifs:List au}{it acc:ay}(hg:gens[d]? =af ⟨target,iter,ifs,0⟩):
  compTurn (.ListComp elt gens scope pos) d it acc env=(do
   lh iter.pos
   match←pyNext it with
   |none=>aA (.done .next)
   |some v=>
    lr target it v
    assign target env v
    let mut ok:=ao
    for c in ifs do
     if ok then ok←isTrue c env (eval c env)
    if ok then
     match gens[d+1]? with
     |some g'=>
      let x←eval g'.iter env
      lh g'.iter.pos
      let x←if g'.is_async != 0 then foldedIterable g'.iter x else qO g'.iter env x
      let _←runOwn (.compStart (.ListComp elt gens scope pos) (d+1) (←holding [x] (if g'.is_async != 0 then asyncIter x else rD x)) acc env) env
     |none=>(do let _←call (.builtin "list.append") [acc,←eval elt env])
    again (.compLoop (.ListComp elt gens scope pos) d it acc env)):=by
 unfold compTurn;simp only [hg];rfl
def xI(M:Model)(A:iW)(elt:au)(gens:List iB)(scope:Scope)(pos:Pos)(d:Nat)(acc:ay)(env:Env)(Q:aM->Prop)(E:ay->aM->Prop)(s:aM):Prop:=match gens[d+1]? with
 |some g'=>g'.is_async=0/\(∀x,qO g'.iter env x=aA x)/\wpAny M A (eval g'.iter env) (λx s₁=>wpAny M A (rD x) (λit' s_2=>
   wpAny M A (runOwn (.compStart (.ListComp elt gens scope pos) (d+1) it' acc env) env) (λ_ s_3=>Q s_3) E s_2) E s₁) E s
 |none=>wpAny M A (eval elt env) (λx s₁=>wpAny M A (call (.builtin "list.append") [acc,x]) (λ_ s_2=>Q s_2) E s₁) E s
noncomputable def AR(ifs:List au)(env:Env):Sem Bool:=forIn ifs ao λc r=>if r=ao then do let ok←isTrue c env (eval c env);aA (dE ok) else aA (dE r)
theorem uK{target iter:au}{ifs:List au}{it acc:ay}(hg:gens[d]? =af ⟨target,iter,ifs,0⟩)(I:Nat->aM->Prop)
  (turn:∀n s,I n s->wpAny (model prog w) A (pyNext it) (λr s₁=>match r with
   |none=>R (.ok .next) s₁
   |some v=>wpAny (model prog w) A (lr target it v) (λ_ Sp=>wpAny (model prog w) A (assign target env v) (λ_ s_2=>
     wpAny (model prog w) A (AR ifs env) (λok s_3=>if ok=ao then xI (model prog w) A elt gens scope pos d acc env (λs_4=>∃m,m<n/\I m s_4) (tJ (model prog w) A env λe s'=>R (.error e) s') s_3
      else∃m,m<n/\I m s_3) (tJ (model prog w) A env λe s'=>R (.error e) s') s_2) (tJ (model prog w) A env λe s'=>R (.error e) s') Sp) (tJ (model prog w) A env λe s'=>R (.error e) s') s₁) (tJ (model prog w) A env λe s'=>R (.error e) s') s)
  (n:Nat) (h:I n s):gK (model prog w) A (.compLoop (.ListComp elt gens scope pos) d it acc env) R s:=by
 refine codeAny_loop rfl I (λn s hI=>?_) n h;show wpAny _ A ((compTurn (.ListComp elt gens scope pos) d it acc env).onRaise (λx=>do sz x env;theTreesLotGoes x)) _ _ s;refine wpAny_noted ?_;refine (compTurn_gen hg)▸ ?_;refine aB (eC (aB (fW (turn n s hI) (λr s₁ h_1=>?_) λ_ _ h'=>h')));induction r using aw with
 |none=>exact bG h_1
 |some v=>
  refine aB (fW h_1 (λ_ Sp h_1'=>?_) λ_ _ h'=>h');refine aB (fW h_1' (λ_ s_2 h_2=>aB (fW h_2 (λok s_3 h_3=>?_) λ_ _ h'=>h')) λ_ _ h'=>h');induction ok using cF with
  |false=>exact bG ⟨rfl,h_3⟩
  |true=>
   have h_4:xI (model prog w) A elt gens scope pos d acc env (λs_4=>∃m,m<n/\I m s_4) (tJ (model prog w) A env λe s'=>R (.error e) s') s_3:=h_3;unfold xI at h_4;induction hq:gens[d+1]? using aw with
   |none=>
    rw [hq] at h_4;exact aB (aB (fW h_4 (λx s_4 h_5=>aB (fW h_5 (λ_ s_5 h_6=>bG (bG ⟨rfl,h_6⟩)) λ_ _ h'=>h')) λ_ _ h'=>h'))
   |some g'=>
    rw [hq] at h_4;refine cT h_4 λa0 fs h_4=>?_;have ab:(g'.is_async != 0)=bc:=by rw [a0];rfl
    refine aB (fW h_4 (λx s_4 h_5=>aB (eC ?_)) λ_ _ h'=>h');simp only [ab,dw,if_false];refine aB (nO (fs x) (aB (dX (fW h_5 (λit' s_5 h_6=>?_) λ_ _ h'=>h'))));exact aB (fW h_6 (λ_ s_6 h_7=>bG ⟨rfl,h_7⟩) λ_ _ h'=>h')
structure lK(I:bj)(ρ:List bj)(W:Wr)(s:aM)(ρ':List bj)(s':aM):Prop where
 ext:∃m,ρ'=ρ++m/\∀a∈m,s.heap.get? a=ae
 live:∀b o,b≠I->s.heap.get? b=af o->∃o',s'.heap.get? b=af o'
 keep:∀b o,b≠I->s.heap.get? b=af o->(b∉ρ∨∃i∈W.fz,ρ[i]? =af b)->b∉W.own->s'.heap.get? b=af o
 wM:∀b∈W.kD,b∉W.loc->b≠I->∀o,s.heap.get? b=af o->∃o',s'.heap.get? b=af o'/\o'.data=o.data
 gens:s'.gens=s.gens
 os:s'.os=s.os
 drawn:s'.drawn=s.drawn
section
variable{ρ_0 ρi:List bj}{s_0:aM}{k:Lv}{I:bj}{W:Wr}
theorem lK.ext'(x:lK I ρ W s ρ' s'):Ext ρ ρ':=let ⟨m,e,_⟩:=x.ext;⟨m,e⟩
theorem lK.refl:lK I ρ W s ρ s:=⟨⟨[],by simp,λ_ h=>nomatch h⟩,λ_ o _ e=>⟨o,e⟩,λ_ _ _ e _ _=>e,λ_ _ _ _ o e=>⟨o,e,rfl⟩,rfl,rfl,rfl⟩
theorem lK.move(x:lK I ρ W s ρ' s')(hk:∀b o,b≠I->s'.heap.get? b=af o->h'.get? b=af o):lK I ρ W s ρ' {s' with heap:=h',toks:=tk}:=
 ⟨x.ext,λb o hb h=>let ⟨o',h'⟩:=x.live b o hb h;⟨o',hk b o' hb h'⟩,λb o hb h h2 h3=>hk b o hb (x.keep b o hb h h2 h3),λb hb hl hi o e=>let ⟨o',e',d'⟩:=x.wM b hb hl hi o e;⟨o',hk b o' hi e',d'⟩,x.gens,x.os,x.drawn⟩
theorem lK.step{ρ_1 ρ_2:List bj}{s₁ s_2:aM}{oI:Obj}(x:lK I ρ W s ρ_1 s₁)(hI:s₁.heap.get? I=af oI)(y:Step ρ_1 W s₁ ρ_2 s_2):lK I ρ W s ρ_2 s_2:=by
 refine aR x.ext λm e hm=>?_;refine aR y.ext λm' e' hm'=>?_;refine ⟨⟨m++m',by rw [e',e,aQ],λa ha=>?_⟩,λb o hb h=>let ⟨o',h'⟩:=x.live b o hb h;y.live b o' h',λb o hb h h1 h2=>?_,λb hb hl hi o e=>let ⟨o_1,e_1,d₁⟩:=x.wM b hb hl hi o e;let ⟨o_2,e_2,d_2⟩:=y.wM b hb hl o_1 e_1;⟨o_2,e_2,d_2.trans d₁⟩,y.gens.trans x.gens,y.os.trans x.os,y.drawn.trans x.drawn⟩
 ·rcases aG.mp ha with ha|ha
  ·exact hm a ha
  ·induction q:s.heap.get? a using aw with
   |none=>rfl
   |some o=>
    obtain ⟨o',h'⟩:=x.live a o (by rintro rfl;rw [hm' _ ha] at hI;exact nn hI) q;rw [hm' a ha] at h';exact nn h'
 ·refine y.keep b o (x.keep b o hb h h1 h2) ?_ h2;rcases h1 with h1|⟨i,hi,h1⟩
  ·refine .inl ?_;refine e▸ ?_;intro hq;rcases aG.mp hq with hq|hq
   ·exact h1 hq
   ·rw [hm b hq] at h;exact nn h
  ·exact .inr ⟨i,hi,x.ext'.at h1⟩
theorem lK.E7{o:Option Nat}(x:lK I ρ (wr (up.gG o) env) s ρ' s'):lK I ρ (wr up env) s ρ' s':=
 ⟨x.ext,x.live,λb o hb h1 h2 h3=>x.keep b o hb h1 (h2.imp id λ⟨i,hi,h⟩=>⟨i,cH _ hi,h⟩) h3,x.wM,x.gens,x.os,x.drawn⟩
theorem lK.whole{o:Obj}(x:lK I ρ W {s with heap:=s.heap.push o} ρ' s')(hI:I=s.heap.objs.size):Step ρ W s ρ' s':=by
 have ne:∀b o,s.heap.get? b=af o->b≠I:=λb o h e=>by subst e;rw [hI,lu] at h;exact nn h
 refine aR x.ext λm e hm=>?_;refine ⟨⟨m,e,λa ha=>?_⟩,λb o h=>x.live b o (ne b o h) (aP _ h),λb o h h2 h3=>x.keep b o (ne b o h) (aP _ h) h2 h3,λb hb hl o h=>x.wM b hb hl (ne b o h) o (aP _ h),x.gens,x.os,x.drawn⟩;induction q:s.heap.get? a using aw with
 |none=>rfl
 |some o'=>
  have:=aP o q;rw [show (s.heap.push o).get? a=ae from hm a ha] at this;exact nn this
theorem E8{src:Src}{fp:List bj}{target iter:au}{ifs:List au}{acc:ay}{turn:V->M Unit}
  (hA:A.handled=ae) (hg:gens[d]? =af ⟨target,iter,ifs,0⟩) (F_0:Fits B ρ_0 σ fr up env fl s_0) (It:Iter B ρi src I fp St) (xi:Ext ρi ρ_0) (O8:St 0 s_0.heap) (OE:I∉ρ_0) (hO:I∉own env) (hB:B.h₀.get? I=ae) (hF:I∉up.kD)
  (hown:∀i h y (s':aM) (Q:Unit->aM->Prop) E',St i h->s'.heap=h->Q () s'->wpAny (model B.pr B.w) A (lr target (.ref I) y) Q E' s')
  (e:fj turn src.items (up.gG src.fz).fz ⟨fr,σ⟩=af ((),s₁))
  (ht:∀v y fr σ u s₁ ρ s (Q:aM->Prop) E',Ext ρ_0 ρ->turn v (up.gG src.fz).fz ⟨fr,σ⟩=af (u,s₁)->Fits B ρ σ fr (up.gG src.fz) env fl s->cA ρ v y->
   (∀ρ' s',Step ρ (wr (up.gG src.fz) env) s ρ' s'->Fits B ρ' s₁.os s₁.fr (up.gG src.fz) env fl s'->Q s')->
   wpAny (model B.pr B.w) A (assign target env y) (λ_ s_2=>wpAny (model B.pr B.w) A (AR ifs env) (λok s_3=>if ok=ao then xI (model B.pr B.w) A elt gens scope pos d acc env Q E' s_3 else Q s_3) E' s_2) E' s)
  (q:∀ρ' s',lK I ρ_0 (wr up env) s_0 ρ' s'->Fits B ρ' s₁.os s₁.fr up env fl s'->R (.ok .next) s'):
  gK (model B.pr B.w) A (.compLoop (.ListComp elt gens scope pos) d (.ref I) acc env) R s_0:=by
 have W:=It.walks A hA;refine uK hg (λn s'=>∃ρ' i ej σ',n=src.items.length+1-i/\i<=src.items.length/\St i s'.heap/\lK I ρ_0 (wr up env) s_0 ρ' s'/\I∉ρ'/\Fits B ρ' σ' ej (up.gG src.fz) env fl s'/\fj turn (src.items.drop i) (up.gG src.fz).fz ⟨ej,σ'⟩=af ((),s₁))
  ?_ (src.items.length+1) ⟨ρ_0,0,fr,σ,rfl,fm _,O8,.refl,OE,F_0.gG _,e⟩
 rintro n s' ⟨ρ',i,ej,σ',rfl,hi,st,hst,hIn,F',e'⟩;rcases et i src.items.length with hlt|hge
 ·refine W.item i s' _ _ hlt st λv h' tk ⟨it,hit,hv⟩ st' hk=>?_;have hk':∀b o,b≠I->s'.heap.get? b=af o->h'.get? b=af o:=λb o hb e=>hk b o (by simpa using hb) e;have F2:=F'.iter hIn hO hB hF hk' tk;have st2:=hst.move (tk:=tk) hk';have hd:src.items.drop i=it::src.items.drop (i+1):=by
   obtain ⟨h1,h2⟩:=cP.mp hit;rw [fM h1,h2]
  rw [hd] at e';refine bQ e' λu s_2 h1 e'=>?_;refine hown (i+1) h' v _ _ _ st' rfl ?_;refine aR (It.cls (i+1) h' st') λoI hoI _=>?_;refine ht it v ej σ' u s_2 ρ' _ (λs_4=>∃m,m<src.items.length+1-i/\_) _ hst.ext' h1 F2 (hv.ext (xi.trans hst.ext')) λLl s'' Gl zb=>?_;obtain ⟨st3,Rq⟩:=It.stays hA F2 (xi.trans hst.ext') hIn hO hF st' Gl zb;obtain ⟨wq,σ_2⟩:=s_2;exact ⟨_,oo (gw hlt) (bU _),Ll,i+1,wq,σ_2,rfl,by exact hlt,st3,st2.step hoI Gl.E7,Rq,zb,e'⟩
 ·have hi':i=src.items.length:=by exact hV hi hge
  subst hi';refine W.done s' _ _ st λh' tk hk=>?_;have hk':∀b o,b≠I->s'.heap.get? b=af o->h'.get? b=af o:=λb o hb e=>hk b o (by simpa using hb) e;rw [zf] at e';obtain ⟨_,rfl⟩:=aK e';exact q _ _ (hst.move hk') (F'.iter hIn hO hB hF hk' tk).E7
end
structure yO(B:lH)(c:Cx)(k:Lv):Prop where
 n9:eh c B
 hd:c.hd=ao->k.hd=ao
def dP(B:lH)(c:Cx)(k:Lv)(e:au):Prop:=∀(env:Env) (fl:List Env) (up:Up) (fr:eB) (σ:List O) (v:V) (s₁:eP),cU c e up.sc up.vals up.fz ⟨fr,σ⟩=af (v,s₁)->
 ∀(A:iW) (ρ:List bj) (s:aM) (Q:ay->aM->Prop) (E:ay->aM->Prop),kE A k->A.frames=af fl->Fits B ρ σ fr up env fl s->KV B env fl up ρ s s₁.fr s₁.os v Q->wpAny (model B.pr B.w) A (eval e env) Q E s
abbrev YQ(B:lH)(env:Env)(fl:List Env)(up:Up)(ρ:List bj)(s:aM)(ej:eB)(σ':List O)(v:List V)(Q:List ay->aM->Prop):Prop:=
 ∀ρ' s' x,Step ρ (wr up env) s ρ' s'->Fits B ρ' σ' ej up env fl s'->bM ρ' v x->Q x s'
def CK(B:lH)(c:Cx)(k:Lv)(es:List au):Prop:=∀(env:Env) (fl:List Env) (up:Up) (fr:eB) (σ:List O) (v:List V) (s₁:eP) (pos:Pos),AD c es up.sc up.vals up.fz ⟨fr,σ⟩=af (v,s₁)->
 ∀(A:iW) (ρ:List bj) (s:aM) (Q:List ay->aM->Prop) (E:ay->aM->Prop),kE A k->A.frames=af fl->Fits B ρ σ fr up env fl s->YQ B env fl up ρ s s₁.fr s₁.os v Q->wpAny (model B.pr B.w) A (spliced (ka pos (fG es env))) Q E s
def o7(B:lH)(c:Cx)(k:Lv)(es:List au):Prop:=∀(env:Env) (fl:List Env) (up:Up) (fr:eB) (σ:List O) (v:List V) (s₁:eP) (pos:Pos),uE c es up.sc up.vals up.fz ⟨fr,σ⟩=af (v,s₁)->
 ∀(A:iW) (ρ:List bj) (s:aM) (Q:List ay->aM->Prop) (E:ay->aM->Prop),kE A k->A.frames=af fl->Fits B ρ σ fr up env fl s->YQ B env fl up ρ s s₁.fr s₁.os v Q->wpAny (model B.pr B.w) A (spliced (ka pos (fG es env))) Q E s
theorem Ae(e:au):notStar e=ao∨∃y p,e= .Starred y p:=by
 induction e using bf<;>first|exact .inl rfl|exact .inr ⟨_,_,rfl⟩
theorem PF(e:au):notAttr e=ao∨∃o n p,e= .Attribute o n p:=by
 induction e using bf<;>first|exact .inl rfl|exact .inr ⟨_,_,_,rfl⟩
theorem kP{rest:List au}(h:notStar e=ao):fG (e::rest) env=(bc,eval e env)::fG rest env:=by
 induction e using bf<;>first|rfl|injection h
section
variable{k:Lv}
theorem PG:CK B c k []:=λenv fl up fr σ v s₁ pos e A ρ s Q E r a F q=>by
 obtain ⟨rfl,rfl⟩:=aK e;exact t8 (q ρ s [] Step.refl F trivial)
theorem Mu{es:List au}(hs:notStar e=ao)(h:dP B c k e)(hr:CK B c k es):CK B c k (e::es):=λenv fl up fr σ v s₁ pos ev A ρ s Q E r a F q=>by
 refine bQ ev λw s_2 h1 ev=>?_;refine bQ ev λws s_3 h2 ev=>?_;obtain ⟨rfl,rfl⟩:=aK ev;refine wpAny_items_cons (h env fl up fr σ w s_2 h1 A ρ s _ E r a F λρ_1 t_1 x st F_1 hx=>?_) (kP hs);exact hr env fl up s_2.fr s_2.os ws _ pos h2 A ρ_1 t_1 _ E r a F_1 λρ_2 s_2 xs st' F_2 hxs=>q ρ_2 s_2 _ (st.trans st') F_2 ⟨hx.ext st'.ext',hxs⟩
theorem args_nil:o7 B c k []:=λenv fl up fr σ v s₁ pos e A ρ s Q E r a F q=>by
 obtain ⟨rfl,rfl⟩:=aK e;exact t8 (q ρ s [] Step.refl F trivial)
theorem args_cons{es:List au}(hs:notStar e=ao)(h:dP B c k e)(hr:o7 B c k es):o7 B c k (e::es):=λenv fl up fr σ v s₁ pos ev A ρ s Q E r a F q=>by
 have ev':(do let v←cU c e up.sc up.vals;let vs←uE c es up.sc up.vals;aA (v::vs):M (List V)) up.fz ⟨fr,σ⟩=af (v,s₁):=by
  induction e using bf<;>first|exact ev|injection hs
 refine bQ ev' λw s_2 h1 ev'=>?_;refine bQ ev' λws s_3 h2 ev'=>?_;obtain ⟨rfl,rfl⟩:=aK ev';refine wpAny_items_cons (h env fl up fr σ w s_2 h1 A ρ s _ E r a F λρ_1 t_1 x st F_1 hx=>?_) (kP hs);exact hr env fl up s_2.fr s_2.os ws _ pos h2 A ρ_1 t_1 _ E r a F_1 λρ_2 s_2 xs st' F_2 hxs=>q ρ_2 s_2 _ (st.trans st') F_2 ⟨hx.ext st'.ext',hxs⟩
theorem I0{T:String}{ys:Array ay}{Q:List ay->aM->Prop}(hT:T= "list" ∨T= "tuple")(ho:s.heap.get? a=af ⟨.type T,ae,.seq ys n,#[]⟩)(hz:ys.size<=1000000)
  (h:∀h',(∀b o',s.heap.get? b=af o'->h'.get? b=af o')->Q ys.toList {s with heap:=h'}):StarOf (model B.pr B.w) A E (.ref a) Q s:=by
 have Yt:s.TypeIs (.ref a) T:=⟨_,ho,rfl⟩;have z:wpAny (model B.pr B.w) A (collect (.ref a)) Q E s:=wpAny_collect_seq a hT ho rfl rfl h (by show _<=2^24;exact qk hz rfl);unfold StarOf notIterableAtAll;rcases hT with rfl|rfl
 ·exact aB (nZ Yt PySem.F.slot_list_iter.lookup (bG ⟨rfl,z⟩))
 ·exact aB (nZ Yt PySem.F.slot_tuple_iter.lookup (bG ⟨rfl,z⟩))
theorem AS{x:ay}{s':eP}{Q:List ay->aM->Prop}(F:Fits B ρ σ fr up env fl s)(H:eh c B)(e:zA c v up.fz ⟨fr,σ⟩=af (xs,s'))(hx:cA ρ v x)(q:YQ B env fl up ρ s s'.fr s'.os xs Q):StarOf (model B.pr B.w) A E x Q s:=
 objE e λo h1 e=>bZ e λys w e=>by
  obtain ⟨rfl,rfl⟩:=aK e;refine vQ (Ab w) (λw=>?_) λw=>?_
  ·rw [w] at h1;refine b8 (F.jC H.aj h1 hx) λp ys n q'1 g1 g2 g3=>?_;subst q'1;exact I0 (.inl rfl) g1 g3 λh' hk=>dZ (F.grown hk s.toks) λst F'=>q ρ _ _ st F' g2
  ·rw [w] at h1;refine b8 (F.mH H.aj h1 hx) λp ys n q'1 g1 g2 g3=>?_;subst q'1;exact I0 (.inr rfl) g1 g3 λh' hk=>dZ (F.grown hk s.toks) λst F'=>q ρ _ _ st F' g2
theorem Kp{p:Pos}(H:eh c B)(h:dP B c k e):o7 B c k [.Starred e p]:=λenv fl up fr σ v s₁ pos ev A ρ s Q E r a F q=>by
 refine bQ ev λw s_2 h1 JI=>?_;refine items_star (h env fl up fr σ w s_2 h1 A ρ s _ E r a F λρ_1 t_1 x st F_1 hx=>?_);refine AS F_1 H JI hx λρ_2 t_2 ys st' F_2 hys=>?_;refine t8 ?_;rw [bB];exact q ρ_2 t_2 ys (st.trans st') F_2 hys
theorem xJ{f:ay}{Q:Args->aM->Prop}(H:eh c B)(hargs:o7 B c k args)(hstar:∀e p,args= [.Starred e p]->dP B c k e)
  (e:uE c args up.sc up.vals up.fz ⟨fr,σ⟩=af (vs,s₁)) (r:kE A k) (a:A.frames=af fl) (F:Fits B ρ σ fr up env fl s)
  (q:∀ρ' s' x,Step ρ (wr up env) s ρ' s'->Fits B ρ' s₁.os s₁.fr up env fl s'->bM ρ' vs x->Q ⟨x,[]⟩ s'):wpAny (model B.pr B.w) A (evalArgs f ao (ka pos (fG args env)) []) Q E s:=by
 induction args using aC with
 |nil=>
  obtain ⟨rfl,rfl⟩:=aK e;exact rI (q ρ s [] Step.refl F trivial)
 |cons x rest=>
  rcases Ae x with hx|⟨y,p,rfl⟩
  ·have:=hargs env fl up fr σ vs s₁ pos e A ρ s (λvs s'=>Q ⟨vs,[]⟩ s') E r a F λρ' s' y st F' hy=>q ρ' s' y st F' hy;rw [kP hx] at this ⊢;exact Calls.evalArgs_plain this
  ·induction rest using aC with
   |nil=>
    refine bQ e λw s_2 h1 e1=>?_;refine ks_lone (hstar y p rfl env fl up fr σ w s_2 h1 A ρ s _ E r a F λρ_1 t_1 x st F_1 hx=>?_);exact AS F_1 H e1 hx λρ_2 t_2 ys st' F_2 hys=>q ρ_2 t_2 ys (st.trans st') F_2 hys
   |cons z zs=>
    refine bQ e λw s_2 h1 e1=>?_;exact nomatch (show (ae:Option (V × eP))=af (w,s_2) from h1)
end
def RX(ρ:List bj)(s_0 s:aM)(x:ay):Prop:=∃e T oe vs oT ts,x= .ref e/\s_0.heap.get? e=ae/\s_0.heap.get? T=ae/\T∉ρ/\T≠e/\s.heap.get? e=af oe/\oe.data= .fields vs/\vs[1]? =af (.ref T)/\
 s.heap.get? T=af oT/\oT.data= .fields ts/\ts[3]? =af .none
abbrev KX(B:lH)(env:Env)(fl:List Env)(up:Up)(ρ:List bj)(s:aM)(ej:eB)(σ':List O)(i:Nat)(E:ay->aM->Prop):Prop:=
 ∀ρ' s' x,Step ρ (wr up env) s ρ' s'->Fits B ρ' σ' ej up env fl s'->cA ρ' (.ref i) x->RX ρ' s s' x->E x s'
def KR(B:lH)(env:Env)(fl:List Env)(up:Up)(ρ:List bj)(s:aM)(ej:eB)(σ':List O)(r:CR)(Q E:ay->aM->Prop):Prop:=match r with
 | .ret v=>KV B env fl up ρ s ej σ' v Q
 | .exc i=>KX B env fl up ρ s ej σ' i E
def kF(B:lH)(c:Cx)(k:Lv):Prop:=∀(env:Env) (fl:List Env) (up:Up) (fr:eB) (σ:List O) (a:bj) (as:List V) (r:CR) (os':List O),c.call (.top a) as σ up.fz=af (r,os')->
 ∀(A:iW) (ρ:List bj) (s:aM) (Q:ay->aM->Prop) (E:ay->aM->Prop) (vals:List ay),kE A k->A.frames=af fl->A.handled=ae->Fits B ρ σ fr up env fl s->bM ρ as vals->
  KR B env fl up ρ s fr os' r Q E->gK (model B.pr B.w) A (.call (.ref a) ⟨vals,[]⟩) (λr s'=>match r with| .ok (.ret v)=>Q v s'| .ok _=>False| .error e=>E e s') s
section
variable{M:Model}
theorem jZ{f:ay}{first:List ay}{pos':Pos}{P:pQ->Prop}(hk:∀h,P h->∃k,(k=oJ∨k=lX∨k=jQ)/\Looks M h (yw f) k)
  (h:wpAny M A (evalArgs f ao (ka pos (fG args env)) []) (λa s₁=>P s₁.heap/\wpAny M A (call f (first++a.pos) a.kw) Q E s₁) E s):wpAny M A (callWith pos' f first (ka pos (fG args env)) []) Q E s:=by
 induction hst:(ka pos (fG args env)).any (·.1) using cF with
 |true=>exact ks_call hst hk h
 |false=>exact callWith_of (by rw [hst];rfl) hk h
theorem AU{id:String}(h:pQ):∃k,(k=oJ∨k=lX∨k=jQ)/\Looks M h (yw (.builtin id)) k:=⟨.machine,.inr (.inl rfl),wx rfl⟩
theorem Hv{n:String}(h:pQ):∃k,(k=oJ∨k=lX∨k=jQ)/\Looks M h (yw (.type n)) k:=⟨.machine,.inr (.inl rfl),wx rfl⟩
end
section
variable{k:Lv}
theorem AV{f:bj}{r:CR}(H:yO B c k)(hc:kF B c k)(e:dN c (.top f) as up.fz ⟨fr,σ⟩=af (r,s₁))(rm:kE A k)(a:A.frames=af fl)(F:Fits B ρ σ fr up env fl s)
  (hv:bM ρ as vals) (q:KR B env fl up ρ s s₁.fr s₁.os r Q E):gK (model B.pr B.w) A (.call (.ref f) ⟨vals,[]⟩) (λr s'=>match r with| .ok (.ret v)=>Q v s'| .ok _=>False| .error e=>E e s') s:=by
 refine xB e λhz e=>?_;rw [aS] at hz;refine lmap e λq'2 h1 h2=>?_;obtain ⟨r',os'⟩:=q'2;obtain ⟨⟩:=h2;exact hc env fl up fr σ _ as _ _ h1 A ρ s Q E vals rm a (rm.hd (H.hd hz.1)) F hv q
theorem AW{f:V}{r:CR}{x:ay}(H:yO B c k)(hc:kF B c k)(e:dN c f as up.fz ⟨fr,σ⟩=af (r,s₁))(rm:kE A k)(a:A.frames=af fl)(F:Fits B ρ σ fr up env fl s)
  (hx:cA ρ f x) (hv:bM ρ as vals) (q:KR B env fl up ρ s s₁.fr s₁.os r Q E):wpAny (model B.pr B.w) A (call x vals) Q E s:=by
 refine ef e (λy w e=>?_) (λ_ e=>?_)
 ·rw [VI w] at hx;refine xB e λ_ e=>?_;refine bQ e λv s_2 h1 e1=>?_;obtain ⟨rfl,rfl⟩:=aK e1;subst hx;exact VU F H.n9 h1 hv q
 refine ef e (λy w e=>?_) (λ_ e=>?_)
 ·rw [L7 w] at hx;refine xB e λ_ e=>?_;refine bQ e λv s_2 h1 e1=>?_;obtain ⟨rfl,rfl⟩:=aK e1;subst hx;exact Pz F H.n9 h1 hv q
 ·refine bZ e λy w e=>?_;rw [IT w] at hx;subst hx;exact pU (AV H hc e rm a F hv q)
theorem uL{f:V}{r:CR}{x:ay}{Xb:eB}{σ_0:List O}(H:eh c B)(e:dN c f as up.fz ⟨Xb,σ_0⟩=af (r,s₁))(hx:cA ρ' f x):
  ∀h,B.K.In h->∃k,(k=oJ∨k=lX∨k=jQ)/\Looks (model B.pr B.w) h (yw x) k:=by
 refine ef e (λy w e=>?_) (λ_ e=>?_)
 ·rw [VI w] at hx;subst hx;exact λh _=>AU h
 refine ef e (λy w e=>?_) (λ_ e=>?_)
 ·rw [L7 w] at hx;subst hx;exact λh _=>Hv h
 ·refine bZ e λy w e=>?_;rw [IT w] at hx;refine xB e λhz e=>?_;rw [aS,H.K] at hz;subst hx;exact keeps_K hz.2
theorem CL{id:String}{x:ay}{xs:List ay}(H:yO B c k)(BG:c.hd=ao∨id= "list.pop")(rm:kE A k)(F:Fits B ρ σ fr up env fl s)
  (e:fh c id o as up.fz ⟨fr,σ⟩=af (v,s₁)) (hx:cA ρ o x) (hxs:bM ρ as xs) (q:KV B env fl up ρ s s₁.fr s₁.os v Q):wpAny (model B.pr B.w) A (call (.builtin id) (x::xs)) Q E s:=by
 have hT:=H.n9.aj;refine EA e (λh e=>?_) λe=>?_
 ·subst h;exact CJ F hT e hx hxs q
 refine EA e (λh e=>?_) λe=>?_
 ·subst h;exact Kk rm (H.hd (BG.resolve_right (by decide))) F hT e hx hxs q
 refine EA e (λh e=>?_) λe=>?_
 ·subst h;exact Mo F hT e hx hxs q
 refine EA e (λh e=>?_) λe=>?_
 ·subst h;exact Tr F hT e hx hxs q
 refine EA e (λh e=>?_) λe=>?_
 ·subst h;exact Mp F hT e hx hxs q
 refine EA e (λh e=>?_) λe=>?_
 ·subst h;exact Mq F hT e hx hxs q
 refine EA e (λh e=>?_) λe=>?_
 ·subst h;exact PB F hT e hx hxs q
 refine EA e (λh e=>?_) λe=>?_
 ·subst h;exact Ki F hT e hx hxs q
 refine EA e (λh e=>?_) λe=>?_
 ·subst h;exact PC F hT e hx hxs q
 refine EA e (λh e=>?_) λe=>?_
 ·subst h;exact Ms F e hx hxs q
 refine EA e (λh e=>?_) λe=>?_
 ·subst h;exact PE F hT e hx hxs q
 refine xB e λh e=>?_;subst h;exact Kj F e hx hxs q
end
def o8(B:lH)(c:Cx)(k:Lv)(e:au):Prop:=∀(env:Env) (fl:List Env) (up:Up) (fr:eB) (σ:List O) (b:Bool) (s₁:eP),tU c e up.sc up.vals (cU c e up.sc up.vals) up.fz ⟨fr,σ⟩=af (b,s₁)->
 ∀(A:iW) (ρ:List bj) (s:aM) (Q:Bool->aM->Prop) (E:ay->aM->Prop),kE A k->A.frames=af fl->Fits B ρ σ fr up env fl s->KA B env fl up ρ s s₁.fr s₁.os b Q->wpAny (model B.pr B.w) A (isTrue e env (eval e env)) Q E s
section
variable{k:Lv}
theorem Mv{kd:Const}:dP B c k (.Constant kd n pos):=λenv fl up fr σ v s₁ e A ρ s Q E r a F q=>by
 dsimp only [cU] at e;induction kd using vY with
 |none=>obtain ⟨rfl,rfl⟩:=aK e;exact wpAny_Constant_none (q.same F rfl)
 |bool b=>obtain ⟨rfl,rfl⟩:=aK e;exact wpAny_Constant_bool (q.same F rfl)
 |int i=>obtain ⟨rfl,rfl⟩:=aK e;exact wpAny_Constant_int (q.toks F ⟨_,rfl⟩)
 |str x=>obtain ⟨rfl,rfl⟩:=aK e;exact xb (q.toks F ⟨_,rfl⟩)
 |_=>exact nn e
theorem DB(H:eh c B):dP B c k (.Name x pos):=λenv fl up fr σ v s₁ e A ρ s Q E r a F q=>by
 refine dZ (CD (A:=A) (E:=E) (pos:=pos) H.K F e) λh g=>?_;subst h;exact g λy hy=>q.same F hy
theorem Ts{l r:au}{op:yp}(H:eh c B)(hl:dP B c k l)(hr:dP B c k r):dP B c k (.BinOp l op r pos):=λenv fl up fr σ v s₁ e A ρ s Q E rm a F q=>by
 refine bQ e λx s_2 h1 e1=>?_;refine bQ e1 λy s_3 h2 e2=>?_;refine wpAny_BinOp (hl env fl up fr σ x s_2 h1 A ρ s _ E rm a F λρ_1 t_1 vx st F_1 hx=>hr env fl up s_2.fr s_2.os y s_3 h2 A ρ_1 t_1 _ E rm a F_1 λρ_2 t_2 vy st' F_2 hy=>?_);exact Tj F_2 H.aj e2 (hx.ext st'.ext') hy λρ_3 t_3 z st'' F_3 hz=>q ρ_3 t_3 z ((st.trans st').trans st'') F_3 hz
theorem Tt{l r:au}{op:CmpOp}(H:eh c B)(hl:dP B c k l)(hr:dP B c k r):dP B c k (.Compare l [op] [r] pos):=λenv fl up fr σ v s₁ e A ρ s Q E rm a F q=>by
 dsimp only [cU] at e;split at e
 ·exact nn e
 ·rename_i hm
  refine bQ e λx s_2 h1 e1=>?_;refine bQ e1 λy s_3 h2 e2=>?_;refine wpAny_Compare1 (hl env fl up fr σ x s_2 h1 A ρ s _ E rm a F λρ_1 t_1 vx st F_1 hx=>hr env fl up s_2.fr s_2.os y s_3 h2 A ρ_1 t_1 _ E rm a F_1 λρ_2 t_2 vy st' F_2 hy=>?_) (by simpa using hm);exact Mb rm F_2 H.aj e2 (hx.ext st'.ext') hy λρ_3 t_3 z st'' F_3 hz=>q ρ_3 t_3 z ((st.trans st').trans st'') F_3 hz
theorem Tu{x:au}(hx:dP B c k x):dP B c k (.UnaryOp .USub x pos):=λenv fl up fr σ v s₁ e A ρ s Q E rm a F q=>by
 refine bQ e λw s_2 h1 e1=>?_;refine wpAny_UnaryOp (hx env fl up fr σ _ _ h1 A ρ s _ E rm a F λρ_1 t_1 vx st F_1 hv=>?_);refine Ds e1 hv λi t h e2=>?_;subst h;obtain ⟨rfl,rfl⟩:=aK e2;exact neg_int (q ρ_1 _ _ (st.trans Step.toks) (F_1.toks _) ⟨_,rfl⟩)
theorem VW{x y:au}(H:eh c B)(hx:dP B c k x)(hy:dP B c k y):dP B c k (.BoolOp .Or [x,y] pos):=λenv fl up fr σ v s₁ e A ρ s Q E rm a F q=>by
 refine bQ e λw s_2 h1 e1=>?_;refine bQ e1 λb s_3 h2 e2=>?_;refine wpAny_Or2 (hx env fl up fr σ w s_2 h1 A ρ s _ E rm a F λρ_1 t_1 vx st F_1 hv=>AL F_1 H.aj h2 hv λρ_2 t_2 st' F_2=>?_);induction b using cF with
 |true=>obtain ⟨rfl,rfl⟩:=aK e2;exact q ρ_2 t_2 vx (st.trans st') F_2 (hv.ext st'.ext')
 |false=>exact hy env fl up s_3.fr s_3.os v s₁ e2 A ρ_2 t_2 _ E rm a F_2 λρ_3 t_3 z st'' F_3 hz=>q ρ_3 t_3 z ((st.trans st').trans st'') F_3 hz
theorem Mw{t b o:au}(ht:o8 B c k t)(hb:dP B c k b)(ho:dP B c k o):dP B c k (.IfExp t b o pos):=λenv fl up fr σ v s₁ e A ρ s Q E rm a F q=>by
 refine bQ e λw s_2 h1 e1=>?_;refine wpAny_IfExp (ht env fl up fr σ w s_2 h1 A ρ s _ E rm a F λρ_1 t_1 st F_1=>?_);induction w using cF with
 |true=>exact hb env fl up s_2.fr s_2.os v s₁ e1 A ρ_1 t_1 _ E rm a F_1 λρ_3 t_3 z st'' F_3 hz=>q ρ_3 t_3 z (st.trans st'') F_3 hz
 |false=>exact ho env fl up s_2.fr s_2.os v s₁ e1 A ρ_1 t_1 _ E rm a F_1 λρ_3 t_3 z st'' F_3 hz=>q ρ_3 t_3 z (st.trans st'') F_3 hz
theorem PH{es:List au}(h:CK B c k es):dP B c k (.List es pos):=λenv fl up fr σ v s₁ e A ρ s Q E rm a F q=>by
 refine bQ e λws s_2 h1 e1=>?_;refine cT (eQ e1) λhz q'1 q'2=>?_;obtain rfl:=q'1;obtain rfl:=q'2;have hz:=iK (show decide _=ao from hz);refine wpAny_List (h env fl up fr σ ws s_2 pos h1 A ρ s _ E rm a F λρ_1 t_1 xs st F_1 hx=>?_);have hl:=hx.length;refine ⟨by show _<=2^24;exact Pa hl hz rfl,?_⟩;refine cT (F_1.alloc (o:=.list ws) (r:={cls:=.type "list",data:=.seq xs.toArray}) ⟨xs.toArray,0,rfl,by simpa using hx,by simp;exact Pa hl hz rfl⟩ t_1.toks) λa1 a2 a3=>?_;exact q _ _ _ (st.trans a1) a2 a3
theorem Mx{es:List au}(h:CK B c k es):dP B c k (.Tuple es n pos):=λenv fl up fr σ v s₁ e A ρ s Q E rm a F q=>by
 refine bQ e λws s_2 h1 e1=>?_;refine cT (eQ e1) λhz q'3 q'4=>?_;obtain rfl:=q'3;obtain rfl:=q'4;have hz:=iK (show decide _=ao from hz);refine wpAny_Tuple (h env fl up fr σ ws s_2 pos h1 A ρ s _ E rm a F λρ_1 t_1 xs st F_1 hx=>?_);have hl:=hx.length;refine ⟨by show _<=2^24;exact Pa hl hz rfl,?_⟩;refine cT (F_1.alloc (o:=.tuple ws) (r:={cls:=.type "tuple",data:=.seq xs.toArray}) ⟨xs.toArray,0,rfl,by simpa using hx,by simp;exact Pa hl hz rfl⟩ t_1.toks) λa1 a2 a3=>?_;exact q _ _ _ (st.trans a1) a2 a3
theorem Kq{p:Pos}(h:dP B c k e):dP B c k (.NamedExpr (.Name x p) e pos):=λenv fl up fr σ v s₁ ev A ρ s Q E rm a F q=>by
 refine bQ ev λw s_2 h1 e1=>?_;refine bQ e1 λu s_3 h2 e2=>?_;obtain ⟨rfl,rfl⟩:=aK e2;refine wpAny_NamedExpr (h env fl up fr σ _ s_2 h1 A ρ s _ E rm a F λρ_1 t_1 vx st F_1 hv=>?_);obtain ⟨rfl,g⟩:=EU (B:=B) (k:=k) (env:=env) (fl:=fl) (up:=up) (fr:=s_2.fr) (σ:=s_2.os) (Pre:=λρ=>cA ρ v vx) (val:=vx) h2 (λρ h=>h);refine aB (eC (wpAny_bindName (g A ρ_1 t_1 _ E rm a F_1 hv λρ_2 t_2 _ st' F_2 _=>q ρ_2 t_2 vx (st.trans st') F_2 (hv.ext st'.ext'))))
end
section
variable{k:Lv}
theorem Tv{x y:au}(hx:o8 B c k x)(hy:o8 B c k y):o8 B c k (.BoolOp .And [x,y] pos):=λenv fl up fr σ b s₁ e A ρ s Q E rm a F q=>by
 refine bQ e λw s_2 h1 e1=>?_;refine vZ (tK (hx env fl up fr σ w s_2 h1 A ρ s _ E rm a F λρ_1 t_1 st F_1=>?_));induction w using cF with
 |false=>obtain ⟨rfl,rfl⟩:=aK e1;exact q ρ_1 t_1 st F_1
 |true=>
  refine tK (hy env fl up s_2.fr s_2.os b s₁ e1 A ρ_1 t_1 _ E rm a F_1 λρ_3 t_3 st'' F_3=>?_);induction b using cF with
  |true=>exact wpAny_allTrue_And_nil (q ρ_3 t_3 (st.trans st'') F_3)
  |false=>exact q ρ_3 t_3 (st.trans st'') F_3
theorem VX{x y:au}(hx:o8 B c k x)(hy:o8 B c k y):o8 B c k (.BoolOp .Or [x,y] pos):=λenv fl up fr σ b s₁ e A ρ s Q E rm a F q=>by
 refine bQ e λw s_2 h1 e1=>?_;refine vZ (ue (hx env fl up fr σ w s_2 h1 A ρ s _ E rm a F λρ_1 t_1 st F_1=>?_));induction w using cF with
 |true=>obtain ⟨rfl,rfl⟩:=aK e1;exact q ρ_1 t_1 st F_1
 |false=>
  refine ue (hy env fl up s_2.fr s_2.os b s₁ e1 A ρ_1 t_1 _ E rm a F_1 λρ_3 t_3 st'' F_3=>?_);induction b using cF with
  |true=>exact q ρ_3 t_3 (st.trans st'') F_3
  |false=>exact wpAny_allTrue_Or_nil (q ρ_3 t_3 (st.trans st'') F_3)
theorem Tw{l r:au}{op:CmpOp}(H:eh c B)(hl:dP B c k l)(hr:dP B c k r):o8 B c k (.Compare l [op] [r] pos):=λenv fl up fr σ b s₁ e A ρ s Q E rm a F q=>by
 refine bQ e λw s_2 h1 e1=>?_;dsimp only [cU] at h1;split at h1
 ·exact nn h1
 ·rename_i hm
  refine bQ h1 λx s_3 h2 e2=>?_;refine bQ e2 λy s_4 h3 e3=>?_;refine wpAny_isTrue_Compare1 (hl env fl up fr σ x s_3 h2 A ρ s _ E rm a F λρ_1 t_1 vx st F_1 hx=>hr env fl up s_3.fr s_3.os y s_4 h3 A ρ_1 t_1 _ E rm a F_1 λρ_2 t_2 vy st' F_2 hy=>?_) (by simpa using hm);exact Mb rm F_2 H.aj e3 (hx.ext st'.ext') hy λρ_3 t_3 z st'' F_3 hz=>AL F_3 H.aj e1 hz λρ_4 t_4 mz F_4=>q ρ_4 t_4 (((st.trans st').trans st'').trans mz) F_4
noncomputable def CM(e:au):Bool:= !(ij e.ctorIdx 3||ij e.ctorIdx 0||ij e.ctorIdx 5||ij e.ctorIdx 15)
theorem My(H:eh c B)(hp:CM e=ao)(h:dP B c k e):o8 B c k e:=λenv fl up fr σ b s₁ ev A ρ s Q E rm a F q=>by
 have e':(do cV c (←cU c e up.sc up.vals):M Bool) up.fz ⟨fr,σ⟩=af (b,s₁):=by
  induction e using bf<;>first|exact ev|injection hp
 refine bQ e' λw s_2 h1 e1=>?_;refine wpAny_isTrue_value (h env fl up fr σ w s_2 h1 A ρ s _ E rm a F λρ_1 t_1 vx st F_1 hx=>AL F_1 H.aj e1 hx λρ_2 t_2 st' F_2=>q ρ_2 t_2 (st.trans st') F_2) ?_;induction e using bf<;>first|rfl|injection hp
theorem sZ{o:au}{a:Str}{m:Sem ay}(h:baseOk o=ao):nq o a env m=m:=by
 induction o using bf with
 |Call g as ks p=>
  induction g using bf with
  |Name x q=>
   induction as using aC with
   |nil=>induction ks using aC with
    |nil=>injection h
    |cons _ _=>rfl
   |cons _ _=>rfl
  |_=>rfl
 |_=>rfl
theorem PI{o:au}{a:Str}(H:eh c B)(ho:dP B c k o):dP B c k (.Attribute o a pos):=λenv fl up fr σ v s₁ e A ρ s Q E rm fa F q=>by
 dsimp only [cU] at e;split at e
 ·exact nn e
 ·rename_i hb
  refine bQ e λw s_2 h1 e1=>?_;show wpAny _ A (nq o a env (eval o env)>>=_) Q E s;refine (sZ (by simpa using hb))▸ ?_;refine aB (ho env fl up fr σ w s_2 h1 A ρ s _ E rm fa F λρ_1 t_1 vx st F_1 hx=>aB (eC (aB (dX ?_))));exact IY F_1 H e1 hx λρ_2 t_2 z st' F_2 hz=>aB (vj (bG (q ρ_2 t_2 z (st.trans st') F_2 hz)))
theorem E9{value slice:au}{o i:ay}(h:zQ (model B.pr B.w) A o i Q E s):
  wpAny (model B.pr B.w) A (getitemInPython o>>=λb=>subscripted slice b o i>>=λr=>letTemporaryGo value o r>>=λ_=>aA r) Q E s:=by
 refine ck h λT id hl hT hg=>?_;refine (getitemInPython_of_ne hT.not_modules)▸ ?_;have fin:∀vs,wpAny (model B.pr B.w) A (operate vs (getItem o i)) (λr s_3=>wpAny (model B.pr B.w) A (letTemporaryGo value o r>>=λ_=>aA r) Q E s_3) E s:=λvs=>
  wpAny_operating (fW hg (λr s_3 h_3=>aB (vj (bG h_3))) λ_ _ x=>x)
 refine aB (aB (nZ hT hl (bG ?_)));refine aB ?_;have sh:(∃vs,subscripted slice bc o i=operate vs (getItem o i)):=by
  clear fin h hT hl hg;induction slice using bf with
  |Slice l u st p=>induction st using aw<;>exact ⟨_,rfl⟩
  |_=>exact ⟨_,rfl⟩
 refine ei sh λvs e=>?_;refine e▸ ?_;exact fin vs
end
section
variable{k:Lv}
noncomputable def Ff(e:au):Bool:= !(ij e.ctorIdx 26)
theorem Mz(e:au):Ff e=ao∨∃l u st p,e= .Slice l u st p:=by
 induction e using bf<;>first|exact .inl rfl|exact .inr ⟨_,_,_,_,rfl⟩
theorem Tz{o i:au}(H:eh c B)(hs:Ff i=ao)(ho:dP B c k o)(hi:dP B c k i):dP B c k (.Subscript o i pos):=λenv fl up fr σ v s₁ e A ρ s Q E rm fa F q=>by
 have e':(do let ov←cU c o up.sc up.vals;let iv←cU c i up.sc up.vals;d0 c ov iv:M V) up.fz ⟨fr,σ⟩=af (v,s₁):=by
  induction i using bf<;>first|exact e|injection hs
 refine bQ e' λw s_2 h1 e1=>?_;refine bQ e1 λy s_3 h2 e2=>?_;rw [eval_Subscript];refine aB (ho env fl up fr σ w s_2 h1 A ρ s _ E rm fa F λρ_1 t_1 vx st F_1 hx=>aB (dX (hi env fl up s_2.fr s_2.os y s_3 h2 A ρ_1 t_1 _ E rm fa F_1 λρ_2 t_2 vy st' F_2 hy=>aB (eC ?_))));exact E9 (Pw F_2 H.aj e2 (hx.ext st'.ext') hy λρ_3 t_3 z st'' F_3 hz=>q ρ_3 t_3 z ((st.trans st').trans st'') F_3 hz)
def B8(B:lH)(c:Cx)(k:Lv)(e:Option au):Prop:=∀(env:Env) (fl:List Env) (up:Up) (fr:eB) (σ:List O) (v:V) (s₁:eP),G0 c e up.sc up.vals up.fz ⟨fr,σ⟩=af (v,s₁)->
 ∀(A:iW) (ρ:List bj) (s:aM) (Q:ay->aM->Prop) (E:ay->aM->Prop),kE A k->A.frames=af fl->Fits B ρ σ fr up env fl s->KV B env fl up ρ s s₁.fr s₁.os v Q->wpAny (model B.pr B.w) A (evalPart e env) Q E s
theorem PJ:B8 B c k ae:=λenv fl up fr σ v s₁ e A ρ s Q E rm fa F q=>by
 dsimp only [G0] at e;obtain ⟨rfl,rfl⟩:=aK e;exact bG (q.same F rfl)
theorem PK(h:dP B c k e):B8 B c k (af e):=λenv fl up fr σ v s₁ ev A ρ s Q E rm fa F q=>by
 dsimp only [G0] at ev;exact h env fl up fr σ v s₁ ev A ρ s Q E rm fa F q
theorem MA{o:au}{l u st:Option au}{p:Pos}(H:eh c B)(ho:dP B c k o)(hl:B8 B c k l)(hu:B8 B c k u)(hs:B8 B c k st):dP B c k (.Subscript o (.Slice l u st p) pos):=λenv fl up fr σ v s₁ e A ρ s Q E rm fa F q=>by
 dsimp only [cU] at e;refine bQ e λw s_2 h1 e1=>?_;refine bQ e1 λx s_3 h2 e2=>?_;refine bQ e2 λy s_4 h3 e3=>?_;refine bQ e3 λz s_5 h4 e4=>?_;rw [eval_Subscript];refine aB (ho env fl up fr σ w s_2 h1 A ρ s _ E rm fa F λρ_1 t_1 vw gk F_1 hw=>aB (dX (wpAny_Slice ?_)));refine hl env fl up s_2.fr s_2.os x s_3 h2 A ρ_1 t_1 _ E rm fa F_1 λρ_2 t_2 vx kB F_2 hx=>?_;refine hu env fl up s_3.fr s_3.os y s_4 h3 A ρ_2 t_2 _ E rm fa F_2 λρ_3 t_3 vy kC F_3 hy=>?_;refine hs env fl up s_4.fr s_4.os z s_5 h4 A ρ_3 t_3 _ E rm fa F_3 λρ_4 t_4 vz mz F_4 hz=>?_;refine aB (eC ?_);exact E9 (Mc F_4 H.aj e4 (((hw.ext kB.ext').ext kC.ext').ext mz.ext') ((hx.ext kC.ext').ext mz.ext') (hy.ext mz.ext') hz λρ_5 t_5 r Gm F_5 hr=>q ρ_5 t_5 r ((((gk.trans kB).trans kC).trans mz).trans Gm) F_5 hr)
theorem Kr{s:Str}{p:Pos}:dP B c k (.JoinedStr [.Constant (.str s) n p] pos):=λenv fl up fr σ v s₁ e A ρ s Q E rm fa F q=>by
 dsimp only [cU] at e;obtain ⟨rfl,rfl⟩:=aK e;exact xb (env:=env) (k:=n) (pos:=p) (q.toks F ⟨_,rfl⟩)
end
section
variable{k:Lv}
theorem yP{r:CR}{s s':eP}(h:ec r z s=af (v,s')):r= .ret v/\s'=s:=by
 induction r using CR.casesOn with
 |ret w=>obtain ⟨rfl,rfl⟩:=aK h;exact ⟨rfl,rfl⟩
 |exc i=>exact nn h
theorem PL{f:au}(hn:notAttr f=ao)(H:yO B c k)(hc:kF B c k)(hf:dP B c k f)(ha:o7 B c k args)(hstar:∀e p,args= [.Starred e p]->dP B c k e):dP B c k (.Call f args [] pos):=
 λenv fl up fr σ v s₁ e A ρ s Q E rm fa F q=>by
 have e':(do let fv←cU c f up.sc up.vals;let as←uE c args up.sc up.vals;ec (←dN c fv as):M V) up.fz ⟨fr,σ⟩=af (v,s₁):=by
  induction f using bf<;>first|exact e|injection hn
 refine bQ e' λw s_2 h1 e1=>?_;refine bQ e1 λws s_3 h2 e2=>?_;refine bQ e2 λr s_4 h3 e3=>?_;obtain ⟨rfl,rfl⟩:=yP e3;have he:eval (.Call f args [] pos) env=(do callWith pos (←eval f env) [] (ka pos (fG args env)) []):=by
  induction f using bf<;>first|rfl|injection hn
 refine he▸ ?_;refine aB (hf env fl up fr σ w s_2 h1 A ρ s _ E rm fa F λρ_1 t_1 vf st F_1 Yu=>?_);refine jZ (P:=B.K.In) (uL H.n9 h3 Yu) (xJ H.n9 ha hstar h2 rm fa F_1 λρ_2 t_2 vs st' F_2 hvs=>⟨F_2.isIn,?_⟩);exact AW H hc h3 rm fa F_2 (Yu.ext st'.ext') hvs λρ_3 t_3 z st'' F_3 hz=>q ρ_3 t_3 z ((st.trans st').trans st'') F_3 hz
theorem CN(h:args.all notStar=ao):(ka pos (fG args env)).all (!·.1)=ao:=by
 induction args with
 |nil=>rfl
 |cons e r ih=>
  rw [iC,aS] at h;refine (kP h.1)▸ ?_;show (ao&&(ka pos (fG r env)).all (!·.1))=ao;rw [ih h.2];rfl
theorem PM{o:au}{ap:Pos}(hn:args.all notStar=ao)(H:yO B c k)(hc:kF B c k)(ho:dP B c k o)(ha:o7 B c k args):dP B c k (.Call (.Attribute o name ap) args [] pos):=
 λenv fl up fr σ v s₁ e A ρ s Q E rm fa F q=>by
 dsimp only [cU] at e;split at e
 ·exact nn e
 ·rename_i hb
  simp only [ez,lY,not_or,yx,decide_eq_false_iff_not,yy,beq_eq_false_iff_ne,ne_eq] at hb;obtain ⟨⟨hb1,hb2⟩,hb3⟩:=hb;refine bQ e λw s_2 h1 e1=>?_;refine bQ e1 λm s_3 h2 GH=>?_;have e2:(do let as←uE c args up.sc up.vals;ec (←eJ c w m as):M V) up.fz s_3=af (v,s₁):=by
   rw [hn,Bool.true_or,if_pos rfl] at GH;exact GH
  refine bQ e2 λws s_4 h3 e3=>?_;refine bQ e3 λr s_5 h4 e4=>?_;obtain ⟨rfl,rfl⟩:=yP e4;show wpAny _ A (nq o name env (eval o env)>>=λov=>lh ap.atName>>=λ_=>pZ o name ap pos env ov (args.length+0) (ka pos (fG args env)) []) Q E s;refine (sZ hb1)▸ ?_;refine aB (ho env fl up fr σ w s_2 h1 A ρ s _ E rm fa F λρ_1 t_1 vo st F_1 Il=>aB (eC ?_));have few:lZ (args.length+0) (ka pos (fG args env)) []=ao:=by
   dsimp only [lZ];rw [CN hn];simp;omega
  dsimp only [pZ];refine few▸ ?_;refine aB (dX ?_);show wpAny _ A (mS vo name _) _ E t_1;have hstar:∀e p,args= [.Starred e p]->dP B c k e:=λe p h=>by subst h;injection hn
  have Rr:s_3=⟨s_2.fr,s_2.os⟩:=(xG (A:=A) (E:=E) (pl:=aA ao) (Q:=λ_ _=>True) F_1 H.n9 h2 Il trivial).1;subst Rr;refine (xG (A:=A) (E:=E) F_1 H.n9 h2 Il ?_).2;refine aB (nO (a:=pos) (by dsimp only [wy];(exact (if_pos (by rw [hb2];simp)))) ?_);induction m using Me.casesOn with
  |fn f=>
   have h5:dN c (.top f) (w::ws) up.fz ⟨s_4.fr,s_4.os⟩=af (.ret v,s₁):=h4;refine jZ (P:=B.K.In) (uL (ρ':=ρ_1) H.n9 h5 rfl) (xJ H.n9 ha hstar h3 rm fa F_1 λρ_2 t_2 vs st' F_2 hvs=>⟨F_2.isIn,?_⟩);exact AW H hc h5 rm fa F_2 rfl ⟨Il.ext st'.ext',hvs⟩ λρ_3 t_3 z st'' F_3 hz=>q ρ_3 t_3 z ((st.trans st').trans st'') F_3 hz
  |bi id=>
   have GI:(if c.hd||id= "list.pop" then (do return Ey (←fh c id w ws)) else fail:M CR) up.fz s_4=af (.ret v,s₁):=h4;by_cases hz:(c.hd||id= "list.pop")=ao
   ·rw [if_pos hz] at GI;refine bQ GI λu s_6 h6 e6=>?_;obtain ⟨e7,rfl⟩:=aK e6;(injection e7 with e7;subst e7);refine jZ (P:=B.K.In) (λh _=>AU h) (xJ H.n9 ha hstar h3 rm fa F_1 λρ_2 t_2 vs st' F_2 hvs=>⟨F_2.isIn,?_⟩);exact CL H (by simpa using hz) rm F_2 h6 (Il.ext st'.ext') hvs λρ_3 t_3 z st'' F_3 hz=>q ρ_3 t_3 z ((st.trans st').trans st'') F_3 hz
   ·rw [if_neg hz] at GI;exact nn GI
end
section
variable{k:Lv}
theorem o9{Q:Unit->aM->Prop}(e:setC up.sc x v up.fz ⟨fr,σ⟩=af (u,s₁))(rm:kE A k)(a:A.frames=af fl)(F:Fits B ρ σ fr up env fl s)(hv:cA ρ v val)
  (q:KA B env fl up ρ s s₁.fr s₁.os () Q):wpAny (model B.pr B.w) A (storeName env x val) Q E s:=by
 obtain ⟨rfl,g⟩:=EU (B:=B) (k:=k) (env:=env) (fl:=fl) (up:=up) (fr:=fr) (σ:=σ) (Pre:=λρ=>cA ρ v val) (val:=val) e (λρ h=>h);exact g A ρ s Q E rm a F hv λρ' s' _ st F' _=>q ρ' s' st F'
theorem wb{t:au}{st:eP}{sc:Scope}(e:rN sc (t::ts) vs z st=af (u,s₁)):∃n p v ws,t= .Name n p/\vs=v::ws/\(setC sc n v>>=λ_=>rN sc ts ws:M Unit) z st=af (u,s₁):=by
 induction vs using aC with
 |nil=>exact nn e
 |cons v ws=>exact bZ e λn w e=>lG (wL w) λp h=>⟨n,p,v,ws,h,rfl,e⟩
theorem B9:∀(ts:List au) (vs:List V) (st:eP) (u:Unit) (s₁:eP),rN up.sc ts vs up.fz st=af (u,s₁)->(iF ts env).length=vs.length/\(iF ts env).findIdx? (·.1)=ae:=by
 intro ts;induction ts with
 |nil=>
  intro vs st u s₁ e;induction vs using aC with
  |nil=>exact ⟨rfl,rfl⟩
  |cons _ _=>exact nn e
 |cons t ts ih=>
  intro vs st u s₁ e;refine Cv (wb e) λn p v ws q'1 q'2 e=>?_;obtain rfl:=q'1;obtain rfl:=q'2;refine bQ e λu' s_2 h1 e1=>?_;obtain ⟨i1,i2⟩:=ih ws s_2 u s₁ e1;constructor
  ·show (iF ts env).length+1=_;refine i1▸ ?_;rfl
  ·show List.findIdx? _ ((bc,_)::iF ts env)=_;rw [List.findIdx?_cons,i2];rfl
theorem Fg:∀(ts:List au) (vs:List V) (xs:List ay) (fr:eB) (σ:List O) (u:Unit) (s₁:eP) (ρ:List bj) (s:aM) (Q:Unit->aM->Prop),rN up.sc ts vs up.fz ⟨fr,σ⟩=af (u,s₁)->kE A k->A.frames=af fl->
  Fits B ρ σ fr up env fl s->bM ρ vs xs->KA B env fl up ρ s s₁.fr s₁.os () Q->wpAny (model B.pr B.w) A (assignInOrder ((iF ts env).map (·.2)) xs) Q E s:=by
 intro ts;induction ts with
 |nil=>
  intro vs xs fr σ u s₁ ρ s Q e rm a F hv q;induction vs using aC with
  |nil=>
   obtain rfl:=hv.nil_inv;obtain ⟨_,rfl⟩:=aK (a:=()) e;exact wpAny_assignInOrder_none (q.same F)
  |cons _ _=>exact nn e
 |cons t ts ih=>
  intro vs xs fr σ u s₁ ρ s Q e rm a F hv q;refine Cv (wb e) λn p v ws q'3 q'4 e=>?_;obtain rfl:=q'3;obtain rfl:=q'4;refine ck hv.cons_inv λx ys q'5 hx hvs=>?_;obtain rfl:=q'5;refine bQ e λu' s_2 h1 e1=>?_;refine wpAny_assignInOrder_more (jR (o9 (k:=k) h1 rm a F hx λρ' s' st F'=>?_));exact ih ws ys s_2.fr s_2.os u s₁ ρ' s' Q e1 rm a F' (hvs.ext st.ext') λLl s'' st' zb=>q Ll s'' (st.trans st') zb
theorem Ks{t:au}{x:ay}{Q:Unit->aM->Prop}(H:eh c B)(hA:A.handled=ae)(e:IJ c up.sc t v up.fz ⟨fr,σ⟩=af (u,s₁))(rm:kE A k)(a:A.frames=af fl)(F:Fits B ρ σ fr up env fl s)(hv:cA ρ v x)
  (q:KA B env fl up ρ s s₁.fr s₁.os () Q):wpAny (model B.pr B.w) A (assign t env x) Q E s:=by
 refine ef e (λn w e=>?_) (λ_ e=>?_)
 ·refine lG (wL w) λp h=>?_;subst h;exact jR (o9 (k:=k) e rm a F hv q)
 ·refine bZ e λts w e=>?_;refine An (VN w) λn p h=>?_;subst h;refine objE e λob h1 e1=>?_;refine bZ e1 λxs w e1=>?_;rw [Aa w] at h1;refine xB e1 λhl e1=>?_;refine b8 (F.mH H.aj h1 hv) λp' ys m q'6 g1 g2 g3=>?_;subst q'6;refine dZ (B9 (env:=env) _ _ _ _ _ e1) λi1 i2=>?_;refine wpAny_assign_Tuple (items:=ys) hA ⟨_,g1,rfl,m,rfl⟩ (i1.trans (g2.length.trans cj)) i2 λh' hx=>?_;refine dZ (F.grown (h':=h') (λb o e=>hx b o (bP (dj e)) e) s.toks) λst F'=>?_;exact Fg (k:=k) _ _ _ _ _ _ _ _ {s with heap:=h'} _ e1 rm a F' g2 λρ' s' st' zb=>q ρ' s' (st.trans st') zb
theorem Kt:∀{ifs:List au}{fr:eB}{σ:List O}{b:Bool}{s₁:eP}{ρ:List bj}{s:aM}{Q:Bool->aM->Prop},(∀e∈ifs,o8 B c k e)->Dp c ifs up.sc up.vals up.fz ⟨fr,σ⟩=af (b,s₁)->kE A k->A.frames=af fl->
  Fits B ρ σ fr up env fl s->KA B env fl up ρ s s₁.fr s₁.os b Q->wpAny (model B.pr B.w) A (AR ifs env) Q E s:=by
 have dead:∀(ifs:List au) (s:aM) (Q:Bool->aM->Prop),Q bc s->
   wpAny (model B.pr B.w) A (forIn ifs bc λc r=>if r=ao then do let ok←isTrue c env (eval c env);aA (dE ok) else aA (dE r)) Q E s:=by
  intro ifs;induction ifs with
  |nil=>intro s Q h;rw [vk];exact bG h
  |cons e r ih=>intro s Q h;rw [lj];exact aB (bG (ih s Q h))
 intro ifs;induction ifs with
 |nil=>
  intro fr σ b s₁ ρ s Q _ e rm a F q;dsimp only [Dp] at e;obtain ⟨rfl,rfl⟩:=aK e;dsimp only [AR];rw [vk];exact bG (q.same F)
 |cons t r ih=>
  intro fr σ b s₁ ρ s Q ht e rm a F q;refine bQ e λw s_2 h1 e1=>?_;dsimp only [AR];rw [lj];refine (if_pos rfl)▸ ?_;refine aB (aB (ht t (fg ..) env fl up fr σ w s_2 h1 A ρ s _ E rm a F λρ_1 t_1 st F_1=>bG ?_));induction w using cF with
  |true=>exact ih (λe he=>ht e (i8 _ he)) e1 rm a F_1 λρ_2 t_2 st' F_2=>q ρ_2 t_2 (st.trans st') F_2
  |false=>
   obtain ⟨rfl,rfl⟩:=aK e1;exact dead r t_1 Q (q ρ_1 t_1 st F_1)
theorem owned_go{t:au}{I:bj}{y:ay}{o:Obj}{Q:Unit->aM->Prop}(ho:s.heap.get? I=af o)(hp:mX o=ao)(q:Q () s):wpAny (model B.pr B.w) A (lr t (.ref I) y) Q E s:=by
 have main:wpAny (model B.pr B.w) A (do
   let (.ref r,.ref a):=((cB I:ay),y)|return ()
   let o←load r
   match o.cls,o.data with
   | .type n,.fields vs=>
    if ["enumerate","zip","dict_itemiterator","dict_reverseitemiterator","odict_iterator","itertools.zip_longest","itertools.pairwise"].contains n&&vs[0]? ==af (xc a) then
     rule "for.unpacks-the-owned-tuple"
     updateField r 0 .none
   |_,_=>aA ():Sem Unit) Q E s:=by
  induction y using iN<;>try exact bG q
  refine aB (wpAny_load ho ?_);dsimp only [mX] at hp;split
  ·rename_i n vs h1 h2
   rw [h1] at hp;simp only [lY] at hp;rw [if_neg (by refine hp▸ ?_;exact iK rfl)];exact bG q
  ·exact bG q
 induction t using bf<;>first|exact main|exact bG q
end
theorem uM(h:AB e=ao)(x:ay):qO e env x=aA x:=by
 induction e using bf<;>first|rfl|injection h
theorem ua{target iter:au}{ifs:List au}{it acc:ay}(hg:gens[d]? =af ⟨target,iter,ifs,0⟩)
  (h0:gK (model prog w) A (.compLoop (.ListComp elt gens scope pos) d it acc env) R s)
  (h:wpAny (model prog w) A (rD it) (λit' s'=>gK (model prog w) A (.compLoop (.ListComp elt gens scope pos) d it' acc env) R s') (tJ (model prog w) A env λx s'=>R (.error x) s') s):
  gK (model prog w) A (.compStart (.ListComp elt gens scope pos) d it acc env) R s:=by
 refine codeAny_of_tree ?_;show wpAny _ _ ((compStart (.ListComp elt gens scope pos) d it acc env).onRaise (λx=>do sz x env;lh theWindowsPlace)) _ _ s;refine wpAny_notedAt ?_;dsimp only [compStart];have hc:(clausesOf (.ListComp elt gens scope pos))[d]? =af ⟨target,iter,ifs,0⟩:=hg;refine hc▸ ?_;show wpAny _ _ (ask>>=_) _ _ s;refine aB (wpAny_askSetting (wpAny_ite ?_));split
 ·first
   |exact aB (bG (bG (zg rfl h0)))
   |exact bG (zg rfl h0)
 ·first
   |exact aB (wpAny_rule (aB (eC (aB (fW h (λit' s' h'=>bG (zg rfl h')) λ_ _ x=>x)))))
   |(refine aB (wpAny_rule ?_);show wpAny _ _ (lh iter.pos>>=_) _ _ s;exact aB (eC (aB (fW h (λit' s' h'=>bG (zg rfl h')) λ_ _ x=>x))))
theorem aZ{m:M α}{f:α->M β}{s:eP}{a:α}(h:m z s=af (a,s₁)):(m>>=f) z s=f a z s₁:=by
 show (match m z s with|some (a,s')=>f a z s'|none=>ae)=_;exact (h)▸rfl
section
variable{k:Lv}
structure VY(B:lH)(c:Cx)(k:Lv)(g:iB):Prop where
 sync:g.is_async=0
 VZ:AB g.iter=ao
 ifs:∀e∈g.ifs,o8 B c k e
 iter:dP B c k g.iter
theorem PN(H:yO B c k)(hok:∀g∈gens,VY B c k g)(helt:dP B c k elt)(BG:c.hd=ao)(hA:A.handled=ae)(rm:kE A k)(a:A.frames=af fl){acc:ay}:
  ∀(rest:List iB) (d:Nat),gens.drop d=rest->∀(up:Up) (fr:eB) (σ:List O) (src:Src) (u:Unit) (s₁:eP) (ρ ρi:List bj) (s_0:aM) (I:bj) (fp:List bj) (St:Nat->pQ->Prop) (R:BJ->aM->Prop),
   EO c rest up.sc up.vals (cU c elt up.sc up.vals) i src up.fz ⟨fr,σ⟩=af (u,s₁)->Fits B ρ σ fr up env fl s_0->Iter B ρi src I fp St->Ext ρi ρ->St 0 s_0.heap->I∉ρ->I∉own env->B.h₀.get? I=ae->
   I∉up.kD->cA ρ (.ref i) acc->(∀ρ' s',lK I ρ (wr up env) s_0 ρ' s'->Fits B ρ' s₁.os s₁.fr up env fl s'->R (.ok .next) s')->
   gK (model B.pr B.w) A (.compStart (.ListComp elt gens scope pos) d (.ref I) acc env) R s_0:=by
 intro rest;induction rest with
 |nil=>intro d hd up fr σ src u s₁ ρ ρi s_0 I fp St R e;dsimp only [EO] at e;exact nn e
 |cons g rest' ih=>
  intro d hd up fr σ src u s₁ ρ ρi s_0 I fp St R e F It xi O8 OE hO hB hF hacc q;obtain ⟨t,iter,ifs,as⟩:=g;have hgd:gens[d]? =af ⟨t,iter,ifs,as⟩:=by
   have:=qb (xs:=gens) (i:=d) (j:=0);rw [hd] at this;simpa using this.symm
  have hrest:gens.drop (d+1)=rest':=by
   have:=List.drop_drop (l:=gens) (i:=1) (j:=d);rw [hd] at this;simpa using this.symm
  have hgm:=hok _ (bN hgd);have has:as=0:=hgm.sync;subst has;dsimp only [EO,dh] at e;have loop:gK (model B.pr B.w) A (.compLoop (.ListComp elt gens scope pos) d (.ref I) acc env) R s_0:=by
   refine E8 hA hgd F It xi O8 OE hO hB hF (λi h y s' Q E' st hs q=>?_) (s₁:=s₁) e (λv y fr σ u s₁ ρ_1 s Q E' xρ ev F_1 hv q'=>?_) q
   ·subst hs;refine aR (It.cls i _ st) λo ho hp=>?_;exact owned_go ho hp q
   ·refine bQ ev λu1 s_2 h1 e1=>?_;refine bQ e1 λb s_3 h2 e2=>?_;refine Ks (k:=k) (up:=up.gG src.fz) H.n9 hA h1 rm a F_1 hv λρ_2 t_2 kB F_2=>?_;refine Kt (c:=c) (up:=up.gG src.fz) hgm.ifs h2 rm a F_2 λρ_3 t_3 kC F_3=>?_;induction b using cF with
    |false=>
     obtain ⟨_,rfl⟩:=aK (a:=()) e2;exact q' ρ_3 t_3 (kB.trans kC) F_3
    |true=>
     rw [if_pos rfl] at e2;refine (if_pos rfl).mpr ?_;have JJ:cA ρ_3 (.ref i) acc:=((hacc.ext xρ).ext kB.ext').ext kC.ext';dsimp only [xI];induction rest' using aC with
     |nil=>
      have:gens[d+1]? =ae:=by
       have:=qb (xs:=gens) (i:=d+1) (j:=0);rw [hrest] at this;simpa using this.symm
      refine this▸ ?_;rw [if_pos (show ([]:List iB).isEmpty=ao from rfl)] at e2;refine bQ e2 λw s_4 h3 e3=>?_;refine objE e3 λob h4 e4=>?_;refine bZ e4 λxs hw e5=>?_;obtain rfl:=wK hw;have e6:z5 c (.ref i) [w] (up.gG src.fz).fz s_4=af (.none,s₁):=(aZ h4).trans ((aZ e5).trans rfl);refine helt env fl (up.gG src.fz) s_3.fr s_3.os w _ h3 A ρ_3 t_3 _ E' rm a F_3 λρ_4 t_4 x mz F_4 hx=>?_;exact CJ F_4 H.n9.aj e6 (JJ.ext mz.ext') ⟨hx,trivial⟩ λρ_5 t_5 _ Gm F_5 _=>q' ρ_5 t_5 (((kB.trans kC).trans mz).trans Gm) F_5
     |cons g' Zm=>
      have hg':gens[d+1]? =af g':=by
       have:=qb (xs:=gens) (i:=d+1) (j:=0);rw [hrest] at this;simpa using this.symm
      refine hg'▸ ?_;have UR:=hok _ (bN hg');refine ⟨UR.sync,uM UR.VZ,?_⟩;rw [if_neg (by simp)] at e2;refine bQ e2 λw s_4 h3 e3=>?_;refine bQ e3 λsrc' s_5 h4 e4=>?_;have h3':cU c g'.iter up.sc up.vals (up.gG src.fz).fz s_3=af (w,s_4):=by
       obtain ⟨t',iter',ifs',as'⟩:=g';dsimp only [AE] at h3;exact h3
      refine UR.iter env fl (up.gG src.fz) s_3.fr s_3.os w _ h3' A ρ_3 t_3 _ E' rm a F_3 λρ_4 t_4 x mz F_4 hx=>?_;have hs5:s_5=⟨s_4.fr,s_4.os⟩:=(qA (A:=A) (E:=E') (Q:=λ_ _=>True) F_4 H.n9 h4 hx λ_ _ _ _ _=>trivial).1;subst hs5;refine (qA (A:=A) (E:=E') F_4 H.n9 h4 hx λo St' fp' It' Zn=>?_).2.2;refine wpAny_runOwn ?_;obtain ⟨stH,FH⟩:=F_4.hidden o t_4.toks;refine ih (d+1) hrest (up.gG src.fz) s_4.fr s_4.os src' u s₁ ρ_4 ρ_4 {t_4 with heap:=t_4.heap.push o} t_4.heap.objs.size fp' St' _ e4 FH It' (Ext.refl _) Zn ?_ ?_ F_4.rep.fresh ?_ (JJ.ext mz.ext') λρ_5 t_5 Gm F_5=>?_
      ·exact λh=>absurd (F_4.rep.lt h) (aW _)
      ·exact λh=>by obtain ⟨o,ho⟩:=F_4.jK _ h;rw [lu] at ho;exact nn ho
      ·exact F_4.xC lu
      ·exact q' ρ_5 t_5 (((kB.trans kC).trans mz).trans (Gm.whole rfl)) F_5
  exact ua hgd loop ((It.walks A hA).self 0 _ _ _ O8 loop)
end
noncomputable def i6(env:Env):List (Str × iq)->List (Str × bj)->List (Str × bj)
 | [],acc=>acc
 |(n,k)::r,acc=>if k== .free then i6 env r ((n,(env.cells.lookup n).getD 0)::acc) else i6 env r acc
theorem Ca(h:∀p∈scope.names,p.2= .free->∃c,env.cells.lookup p.1=af c):closureFor scope env=aA (i6 env scope.names []):=by
 have main:∀(l:List (Str × iq)) (acc:List (Str × bj)),(∀p∈l,p.2= .free->∃c,env.cells.lookup p.1=af c)->
   (forIn l acc λ(p:Str × iq) cs=>if (p.2== .free)=ao then (do let a←cellOf env p.1;aA (dE ((p.1,a)::cs))) else aA (dE cs):Sem (List (Str × bj)))=aA (i6 env l acc):=by
  intro l;induction l with
  |nil=>intro acc _;rfl
  |cons p r ih=>
   intro acc hl;obtain ⟨n,k⟩:=p;rw [lj];dsimp only [i6];by_cases hk:(k==eV)=ao
   ·obtain ⟨c,hc⟩:=hl (n,k) (fg ..) (by simpa using hk);have hc':env.cells.lookup n=af c:=hc;simp only [hk,if_true];have:cellOf env n=aA c:=by dsimp only [cellOf];exact (hc')▸rfl
    rw [this,pure_bind,pure_bind,hc'];exact ih _ λp hp=>hl p (i8 _ hp)
   ·simp only [hk,dw,if_false];rw [pure_bind];exact ih _ λp hp=>hl p (i8 _ hp)
 dsimp only [closureFor];have:=main scope.names [] h;simp only [bind_pure];exact (this).symm.symm
theorem rR:∀(l:List (Str × iq)) (acc:List (Str × bj)) (p:Str × bj),p∈i6 env l acc->p∈acc∨((p.1,eV)∈l/\p.2=(env.cells.lookup p.1).getD 0)
 | [],acc,p,h=>.inl h
 |(n,k)::r,acc,p,h=>by
  dsimp only [i6] at h;split at h
  ·rename_i hk
   rcases rR r _ p h with h|⟨h1,h2⟩
   ·rcases jJ h with rfl|h
    ·have:k= .free:=by simpa using hk
     subst this;exact .inr ⟨fg ..,rfl⟩
    ·exact .inl h
   ·exact .inr ⟨i8 _ h1,h2⟩
  ·rcases rR r _ p h with h|⟨h1,h2⟩
   ·exact .inl h
   ·exact .inr ⟨i8 _ h1,h2⟩
theorem yQ:∀(l:List (Str × iq)) (acc:List (Str × bj)) (p:Str × bj),p∈acc->p∈i6 env l acc
 | [],acc,p,h=>h
 |(n,k)::r,acc,p,h=>by
  dsimp only [i6];split
  ·exact yQ r _ p (i8 _ h)
  ·exact yQ r _ p h
theorem yR:∀(l:List (Str × iq)) (acc:List (Str × bj)) (n:Str),(n,eV)∈l->(n,(env.cells.lookup n).getD 0)∈i6 env l acc
 |(m,k)::r,acc,n,h=>by
  dsimp only [i6];rcases jJ h with e|h
  ·obtain ⟨⟩:=e;rw [if_pos (by rfl)];exact yQ r _ _ (fg ..)
  ·split
   ·exact yR r _ n h
   ·exact yR r _ n h
theorem zF{f:Str->bj}:∀{l:List (Str × bj)}{n:Str},(n,f n)∈l->(∀p∈l,p.2=f p.1)->l.lookup n=af (f n)
 |(m,a)::r,n,h,g=>by
  refine (cz).trans ?_;by_cases hm:n=m
  ·subst hm;have:=g (n,a) (fg ..);simp only at this;simp [this]
  ·have hb:(n==m)=bc:=by simpa using hm
   refine hb▸ ?_;rcases jJ h with e|h
   ·obtain ⟨⟩:=e;exact absurd rfl hm
   ·exact zF h λp hp=>g p (i8 _ hp)
theorem xK{l:List (Str × iq)}{n:Str}(h:(n,eV)∈l):(i6 env l []).lookup n=af ((env.cells.lookup n).getD 0):=
 zF (f:=λn=>(env.cells.lookup n).getD 0) (yR l [] n h) λp hp=>by
  rcases rR l [] p hp with h|h
  ·cases h
  ·exact h.2
theorem I1{inner sc:Scope}{up:eB}(h:(x,eV)∈inner.names):getF (RK inner sc fr up) x=zx sc fr up x:=by
 have main:∀l:List (Str × iq),getF (l.filterMap λp=>if p.2= .free then (zx sc fr up p.1).map λv=>(p.1,v) else ae) x=if (x,eV)∈l then zx sc fr up x else ae:=by
  intro l;induction l with
  |nil=>rfl
  |cons p r ih=>
   obtain ⟨n,k⟩:=p;refine oq▸ ?_;by_cases hk:k= .free
   ·subst hk;simp only [if_true];by_cases hn:n=x
    ·subst hn;refine (if_pos (fg ..))▸ ?_;induction hv:zx sc fr up n using aw with
     |none=>simp only [eA];rw [ih,hv];split<;>rfl
     |some v=>simp only [du];dsimp only [getF];exact (if_pos rfl)
    ·have hiff:((x,eV)∈(n,eV)::r)↔(x,eV)∈r:=by
      constructor
      ·intro h;rcases jJ h with e|h
       ·obtain ⟨⟩:=e;exact absurd rfl hn
       ·exact h
      ·exact i8 _
     induction hv:zx sc fr up n using aw with
     |none=>simp only [eA];refine (ih).trans ?_;simp only [hiff]
     |some v=>simp only [du];dsimp only [getF];(refine (if_neg hn).trans ?_;refine (ih).trans ?_);simp only [hiff]
   ·simp only [hk,if_false];refine (ih).trans ?_;have hiff:((x,eV)∈(n,k)::r)↔(x,eV)∈r:=by
     constructor
     ·intro h;rcases jJ h with e|h
      ·obtain ⟨⟩:=e;exact absurd rfl hk
      ·exact h
     ·exact i8 _
    simp only [hiff]
 dsimp only [RK];rw [main,if_pos h]
theorem AX{f:Str->iq->iq}:∀{l:List (Str × iq)},(l.map λ(n,k)=>(n,f n k)).lookup x=(l.lookup x).map (f x)
 | []=>rfl
 |(n,k)::r=>by
  rw [bx,cz,cz];by_cases h:x=n
  ·subst h;simp
  ·have hb:(x==n)=bc:=by simpa using h
   refine hb▸ ?_;exact AX
theorem pb:(relabel scope env).names.lookup x=(scope.names.lookup x).map λk=>if (k== .free&&env.scope.kind== .function&&env.kindOf x==af .cell) then .cell else k:=by
 dsimp only [relabel];have:=AX (f:=λn k=>if (k== .free&&env.scope.kind== .function&&env.kindOf n==af .cell) then Cs else k) (x:=x) (l:=scope.names);refine (this).symm▸ ?_;congr 1;apply d7;intro p _;obtain ⟨n,k⟩:=p;dsimp only;split<;>rfl
theorem qB{sc:Scope}(h:wJ scope sc gens=ao):scope.kind= .function/\(∀g∈gens,g.is_async=0/\AB g.iter=ao)/\(∀p∈scope.names,p.2≠ .cell)/\(∀p∈scope.names,scope.names.lookup p.1=af p.2)/\
  ∀p∈scope.names,p.2= .free->sc.names.lookup p.1=af .cell∨sc.names.lookup p.1=af .free:=by
 dsimp only [wJ] at h;simp only [aS,bK,ez,decide_eq_true_eq] at h;obtain ⟨⟨h1,h2⟩,h3⟩:=h;exact ⟨h1,h2,λp hp=>(h3 p hp).1.1,λp hp=>(h3 p hp).1.2,λp hp hf=>by
  rcases (h3 p hp).2 with (h|h)|h
  ·exact absurd hf h
  ·exact .inl h
  ·exact .inr h⟩
structure Hid(B:lH)(ρ:List bj)(env:Env)(up:Up)(C:bj):Prop where
 ρ:C∉ρ
 own:C∉own env
 base:B.h₀.get? C=ae
 fr:C∉up.kD
section
variable{k:Lv}
theorem Fits.o6(F:Fits B ρ σ fr up env fl s)(ha:s.heap.objs.size<=a):Hid B ρ env up a:=by
 have ae:s.heap.get? a=ae:=by
  induction q:s.heap.get? a using aw with
  |none=>rfl
  |some o=>exact absurd (dj q) (cC.mpr ha)
 refine ⟨λh=>absurd (F.rep.lt h) (cC.mpr ha),λh=>?_,F.rep.Pr ha,F.xC ae⟩;obtain ⟨o,ho⟩:=F.jK a h;rw [ae] at ho;exact nn ho
theorem oQ{l:List (Str × iq)}(hl:∀p∈l,p.2= .free->∃c,env.cells.lookup p.1=af c)(h:a∈(i6 env l []).map (·.2)):∃n,(n,eV)∈l/\env.cells.lookup n=af a:=by
 refine aR (aT.mp h) λp hp q'1=>?_;obtain rfl:=q'1;rcases rR l [] p hp with h|⟨h1,h2⟩
 ·cases h
 ·obtain ⟨c,hc⟩:=hl _ h1 rfl;simp only at hc;refine ⟨p.1,h1,?_⟩;rw [h2,hc];rfl
theorem Fits.comp{C:bj}(F:Fits B ρ σ fr up env fl s)(hok:wJ scope up.sc gens=ao)(hC:s.heap.objs.size<=C)(hk:∀b o,s.heap.get? b=af o->s'.heap.get? b=af o)
  (hn:s'.heap.Ns C m) (hm:∀x,m x=ae) (hg:s'.gens=s.gens):
  Fits B ρ σ [] ⟨scope,RK scope up.sc fr up.vals,up.fz,up.kD⟩ {newEnv scope C env.globals (i6 env scope.names []) env.qual ae .none (af env) builtinsNs with scope:=relabel scope env} fl s':=by
 refine iJ (qB hok) λk1 k2 k3 k4 k5=>?_;have o6:=F.o6 hC;have cells:∀p∈scope.names,p.2= .free->∃c,env.cells.lookup p.1=af c:=λp hp hf=>by
  rcases k5 p hp hf with h|h
  ·refine dZ (F.mw.G9 p.1 h) λ_ r'2=>?_;refine gb r'2 λc _ _ h1 _=>?_;exact ⟨c,h1⟩
  ·refine dZ (F.mw.ES p.1 h) λ_ r'3=>?_;refine gb r'3 λc _ _ h1 _=>?_;exact ⟨c,h1⟩
 have look:∀n,(n,eV)∈scope.names->∃c,env.cells.lookup n=af c/\(i6 env scope.names []).lookup n=af c:=λn hn'=>by
  obtain ⟨c,hc⟩:=cells _ hn' rfl;refine ⟨c,hc,?_⟩;rw [xK hn',hc];rfl
 have Gn:∀n c,(i6 env scope.names []).lookup n=af c->env.cells.lookup n=af c:=λn c h=>by
  rcases rR scope.names [] (n,c) (mem_of_lookup h) with h'|⟨h1,h2⟩
  ·cases h'
  ·refine aR (look n h1) λc' hc' hl=>?_;rw [h] at hl;(injection hl with hl;subst hl);exact hc'
 have BH:∀a,a∈(i6 env scope.names []).map (·.2)->a∈Internal.own env:=λa ha=>by
  refine aR (oQ cells ha) λn _ h2=>?_;exact i8 _ (mem_lookup h2)
 have Zo:C∉(i6 env scope.names []).map (·.2):=λh=>o6.own (BH C h);refine ⟨F.rep.other λb o e _=>hk b o e,⟨⟨m,hn,λx hx=>⟨?_,?_⟩⟩,λx hx=>?_,λx hx=>?_,λx hx=>?_⟩,⟨?_,F.ok.glob,F.ok.blt⟩,λa ha=>?_,λa ha=>?_,λa ha=>?_,Zo,λx y c h1 h2=>?_,hg.trans F.gens,F.L8,λL hL=>?_⟩
 ·show (relabel scope env).names.lookup x=_;rw [pb,show scope.names.lookup x=af .local from hx];rfl
 ·exact trivial
 ·exact absurd rfl (k3 _ (mem_of_lookup (show scope.names.lookup x=af .cell from hx)))
 ·have hx':scope.names.lookup x=af .free:=hx;have hmem:=mem_of_lookup hx';refine aR (look x hmem) λc hc hl=>?_;refine ⟨?_,?_⟩
  ·show (relabel scope env).names.lookup x=_∨(relabel scope env).names.lookup x=_;rw [pb,hx'];simp only [du];split
   ·exact .inl rfl
   ·exact .inr rfl
  ·show∃(c:bj) (o:Obj) (v:Option ay),(i6 env scope.names []).lookup x=af c/\s'.heap.get? c=af o/\o.data= .cell v/\mv ρ (getF (RK scope up.sc fr up.vals) x) v;refine (I1 hmem)▸ ?_;unfold zx;rcases k5 _ hmem rfl with h|h
   ·refine dZ (F.mw.G9 x h) λ_ r'4=>?_;refine b8 r'4 λc' o v g1 g2 g3 g4=>?_;rw [hc] at g1;(injection g1 with g1;subst g1);rw [show up.sc.names.lookup x=af .cell from h];exact ⟨c,o,v,hl,hk _ _ g2,g3,g4⟩
   ·refine dZ (F.mw.ES x h) λ_ r'5=>?_;refine b8 r'5 λc' o v g1 g2 g3 g4=>?_;rw [hc] at g1;(injection g1 with g1;subst g1);rw [show up.sc.names.lookup x=af .free from h];exact ⟨c,o,v,hl,hk _ _ g2,g3,g4⟩
 ·show (relabel scope env).names.lookup x=_;rw [pb,show scope.names.lookup x=af .globalImplicit from hx];rfl
 ·show (relabel scope env).kind=_;exact k1
 ·rcases jJ ha with rfl|ha
  ·exact o6.ρ
  ·exact F.rO a (BH a ha)
 ·rcases jJ ha with rfl|ha
  ·exact o6.base
  ·exact F.oY a (BH a ha)
 ·rcases jJ ha with rfl|ha
  ·refine gb hn λo _ _ h _=>?_;exact ⟨o,h⟩
  ·obtain ⟨o,h⟩:=F.jK a (BH a ha);exact ⟨o,hk a o h⟩
 ·exact F.oZ x y c (Gn x c h1) (Gn y c h2)
 ·refine iz (F.Dr L hL) λh3 h4 h5 r'6=>?_;refine gb r'6 λo es n h6 h7=>?_;refine ⟨h3,h4,λh=>h5 ?_,o,es,n,hk L o h6,h7⟩;refine aR (oQ cells h) λx _ h2=>?_;exact mem_lookup h2
theorem Fits.back{C I:bj}{cenv:Env}{W:Wr}{ρ_1:List bj}{s₁:aM}{vals:eB}(F:Fits B ρ σ fr up env fl s)(hok:wJ scope up.sc gens=ao)(hC:s.heap.objs.size<=C)(hI:s.heap.objs.size<=I)
  (hk:∀b o,s.heap.get? b=af o->s₁.heap.get? b=af o) (hρ:∃m,ρ_1=ρ++m/\∀a∈m,s.heap.objs.size<=a) (US:own cenv=C::(i6 env scope.names []).map (·.2)) (hcl:cenv.cells=i6 env scope.names []) (hW:W=wr ⟨scope,vals,up.fz,up.kD⟩ cenv)
  (x:lK I ρ_1 W s₁ ρ' s') (F':Fits B ρ' σ' ej ⟨scope,RK scope up.sc fr up.vals,up.fz,up.kD⟩ cenv fl s') (hg:s₁.gens=s.gens/\s₁.os=s.os/\s₁.drawn=s.drawn):
  Step ρ (wr up env) s ρ' s'/\Fits B ρ' σ' fr up env fl s':=by
 subst hW;refine iJ (qB hok) λk1 k2 k3 k4 k5=>?_;have ae:∀a,s.heap.objs.size<=a->s.heap.get? a=ae:=λa ha=>by
  induction q:s.heap.get? a using aw with
  |none=>rfl
  |some o=>exact absurd (dj q) (cC.mpr ha)
 have ne:∀a b o,s.heap.objs.size<=a->s.heap.get? b=af o->b≠a:=λa b o ha h e=>by subst e;rw [ae _ ha] at h;exact nn h
 have cells:∀p∈scope.names,p.2= .free->∃c,env.cells.lookup p.1=af c:=λp hp hf=>by
  rcases k5 p hp hf with h|h
  ·refine dZ (F.mw.G9 p.1 h) λ_ r'7=>?_;refine gb r'7 λc _ _ h1 _=>?_;exact ⟨c,h1⟩
  ·refine dZ (F.mw.ES p.1 h) λ_ r'8=>?_;refine gb r'8 λc _ _ h1 _=>?_;exact ⟨c,h1⟩
 have BH:∀a,a∈(i6 env scope.names []).map (·.2)->a∈Internal.own env:=λa ha=>by
  refine aR (oQ cells ha) λn _ h2=>?_;exact i8 _ (mem_lookup h2)
 refine aR hρ λm e hm=>?_;refine aR x.ext λm' e' hm'=>?_;have UT:∀b o,s.heap.get? b=af o->b∉ρ->b∉ρ_1:=λb o hb h1 h2=>by
  rw [e] at h2;rcases aG.mp h2 with h|h
  ·exact h1 h
  ·exact ne _ _ _ (hm b h) hb rfl
 have kept:∀b o,s.heap.get? b=af o->(b∉ρ∨∃i∈up.fz,ρ[i]? =af b)->b∉(i6 env scope.names []).map (·.2)->b∉up.kD->s'.heap.get? b=af o:=λb o hb h1 h2 h3=>by
  refine x.keep b o (ne I b o hI hb) (hk b o hb) ?_ ?_
  ·rcases h1 with h1|⟨i,hi,h1⟩
   ·exact .inl (UT b o hb h1)
   ·exact .inr ⟨i,hi,Ext.at ⟨m,e⟩ h1⟩
  ·show b∉own cenv++up.kD;refine US▸ ?_;intro h;rcases aG.mp h with h|h
   rotate_left
   ·exact h3 h
   rcases jJ h with h|h
   ·exact ne C b o hC hb h
   ·exact h2 h
 have st:Step ρ (wr up env) s ρ' s':=by
  refine ⟨⟨m++m',by rw [e',e,aQ],λa ha=>?_⟩,λb o hb=>x.live b o (ne I b o hI hb) (hk b o hb),λb o hb h1 h2=>kept b o hb h1 (λh=>h2 (cf _ (BH b h))) λh=>h2 (cH _ h),λb hb hl o e=>x.wM b hb (λh=>?_) (ne I b o hI e) o (hk b o e),x.gens.trans hg.1,x.os.trans hg.2.1,x.drawn.trans hg.2.2⟩
  ·rcases aG.mp ha with ha|ha
   ·exact ae a (hm a ha)
   ·induction q:s.heap.get? a using aw with
    |none=>rfl
    |some o=>have:=hk a o q;rw [hm' a ha] at this;exact nn this
  ·have h':b∈own cenv:=h;rw [US] at h';rcases jJ h' with h|h
   ·exact ne C b o hC e h
   ·exact hl (BH b h)
 have cell:∀y c o v (w:Option V),env.cells.lookup y=af c->s.heap.get? c=af o->o.data= .cell v->mv ρ w v->(up.sc.names.lookup y=af .cell/\w=getF fr y∨up.sc.names.lookup y=af .free/\w=getF up.vals y)->
   ∃(c:bj) (o:Obj) (v:Option ay),env.cells.lookup y=af c/\s'.heap.get? c=af o/\o.data= .cell v/\mv ρ' w v:=λy c o v w h1 h2 h3 h4 h5=>by
  by_cases hin:c∈(i6 env scope.names []).map (·.2)
  ·refine aR (oQ cells hin) λn hn1 hn2=>?_;have:n=y:=F.oZ n y c hn2 h1;subst this;refine dZ (F'.mw.ES n (k4 _ hn1)) λ_ r'9=>?_;refine b8 r'9 λc' o' v' g1 g2 g3 g4=>?_;rw [hcl,xK hn1,hn2] at g1;(injection g1 with g1;subst g1);refine ⟨c,o',v',h1,g2,g3,?_⟩;have JH:mv ρ' (getF (RK scope up.sc fr up.vals) n) v':=g4;rw [I1 hn1] at JH;unfold zx at JH;rcases h5 with ⟨h5,rfl⟩|⟨h5,rfl⟩
   ·rw [h5] at JH;exact JH
   ·rw [h5] at JH;exact JH
  ·exact ⟨c,o,v,h1,kept c o h2 (.inl (F.rO c (i8 _ (mem_lookup h1)))) hin (λh=>(F.Dr c h).2.2.1 (mem_lookup h1)),h3,h4.ext st.ext'⟩
 refine ⟨st,F.step st F'.rep ⟨?_,λy hy=>?_,λy hy=>?_,F.mw.OZ⟩⟩
 ·refine aR F.mw.loc λmm q'10 OF=>?_;obtain ⟨o,es,n,h1,h2,h3⟩:=q'10;have nin:env.locals∉(i6 env scope.names []).map (·.2):=λh=>by
   refine aR (oQ cells h) λn' _ hn2=>?_;exact F.mG (mem_lookup hn2)
  by_cases hfr:env.locals∈up.kD
  ·refine aR (x.wM _ hfr (λh=>by
    have h':env.locals∈own cenv:=h;rw [US] at h';rcases jJ h' with h|h
    ·exact ne C _ o hC h1 h
    ·exact nin h) (ne I _ o hI h1) o (hk _ o h1)) λo' Xc d''=>?_
   exact ⟨mm,⟨o',es,n,Xc,d''.trans h2,h3⟩,λy hy=>⟨(OF y hy).1,(OF y hy).2.ext st.ext'⟩⟩
  ·exact ⟨mm,⟨o,es,n,kept _ _ h1 (.inl (F.rO _ (fg ..))) nin hfr,h2,h3⟩,λy hy=>⟨(OF y hy).1,(OF y hy).2.ext st.ext'⟩⟩
 ·refine dZ (F.mw.G9 y hy) λk' r'11=>?_;refine b8 r'11 λc o v h1 h2 h3 h4=>?_;exact ⟨k',cell y c o v _ h1 h2 h3 h4 (.inl ⟨hy,rfl⟩)⟩
 ·refine dZ (F.mw.ES y hy) λk' r'12=>?_;refine b8 r'12 λc o v h1 h2 h3 h4=>?_;exact ⟨k',cell y c o v _ h1 h2 h3 h4 (.inr ⟨hy,rfl⟩)⟩
end
section
variable{k:Lv}
theorem I2{p:Pos}{use:Option (ay->Sem Unit)}(H:yO B c k)(hok:∀g∈gens,(∀e∈g.ifs,o8 B c k e)/\dP B c k g.iter)(helt:dP B c k elt)
  (e:cU c (.ListComp elt gens scope pos) up.sc up.vals up.fz ⟨fr,σ⟩=af (v,s₁)) {A:iW}{ρ:List bj}{s:aM}{Q:ay->aM->Prop}{E:ay->aM->Prop}(rm:kE A k) (a:A.frames=af fl) (F:Fits B ρ σ fr up env fl s)
  (post:∀ρ' s' acc C m,Step ρ (wr up env) s ρ' s'->Fits B ρ' s₁.os s₁.fr up env fl s'->cA ρ' v acc->Hid B ρ' env up C->s'.heap.Ns C m->s.heap.get? C=ae->compPost (model B.pr B.w) A E use Q acc C (.ok .next) s'):
  wpAny (model B.pr B.w) A (comprehension (.ListComp elt gens scope pos) scope env p (newList []) bc (firstIter gens env) use) Q E s:=by
 dsimp only [cU] at e;split at e
 ·exact nn e
 ·rename_i hc0
  have hc:wJ scope up.sc gens=ao:=by simpa using hc0
  refine iJ (qB hc) λk1 k2 k3 k4 k5=>?_;refine bQ e λit s_2 h1 e1=>?_;refine bQ e1 λsrc s_3 h2 e2=>?_;refine bQ e2 λacc s_4 h3 e3=>?_;refine cT (eQ h3) λ_ q'1 q'2=>?_;obtain rfl:=q'1;obtain rfl:=q'2;induction gens using aC with
  |nil=>dsimp only [AE] at h1;exact nn h1
  |cons g gs=>
   obtain ⟨t,iter,ifs,as⟩:=g;have Ik:cU c iter up.sc up.vals up.fz ⟨fr,σ⟩=af (it,s_2):=by dsimp only [AE] at h1;exact h1
   have hg0:=hok _ (fg ..);have hgk:=k2 _ (fg ..);have cells:∀{ρ:List bj}{σ:List O}{fr:eB}{s:aM},Fits B ρ σ fr up env fl s->∀p∈scope.names,p.2= .free->∃c,env.cells.lookup p.1=af c:=λF p hp hf=>by
    rcases k5 p hp hf with h|h
    ·refine dZ (F.mw.G9 p.1 h) λ_ r'3=>?_;refine gb r'3 λc _ _ h1 _=>?_;exact ⟨c,h1⟩
    ·refine dZ (F.mw.ES p.1 h) λ_ r'4=>?_;refine gb r'4 λc _ _ h1 _=>?_;exact ⟨c,h1⟩
   refine wpAny_comprehension_free (g:=⟨t,iter,ifs,as⟩) (gs:=gs) (cl:=i6 env scope.names []) rfl (uM hgk.2) (Ca (cells F)) k1 (λx hx hl=>by rw [k4 x hx,hl]) ?_;show wpAny (model B.pr B.w) A (eval iter env) _ E s;refine hg0.2 env fl up fr σ it s_2 Ik A ρ s _ E rm a F λρ_1 t_1 x gk F_1 hx=>?_;have Rr:s_3=⟨s_2.fr,s_2.os⟩:=(qA (A:=A) (E:=E) (Q:=λ_ _=>True) F_1 H.n9 h2 hx λ_ _ _ _ _=>trivial).1;have BG:c.hd=ao:=(qA (A:=A) (E:=E) (Q:=λ_ _=>True) F_1 H.n9 h2 hx λ_ _ _ _ _=>trivial).2.1;have hA:A.handled=ae:=rm.hd (H.hd BG);subst Rr;refine (qA (A:=A) (E:=E) F_1 H.n9 h2 hx λo St fp It O8=>?_).2.2;obtain ⟨stH,FH⟩:=F_1.hidden o t_1.toks;refine jS ?_;refine cT (FH.alloc (o:=.list []) (r:={cls:=.type "list",dict:=ae,data:=.seq ([]:List ay).toArray}) ⟨#[],0,rfl,trivial,by exact iK rfl⟩ t_1.toks) λstA FA hacc=>?_;generalize JK:({t_1 with heap:=(t_1.heap.push o).push {cls:=.type "list",dict:=ae,data:=.seq ([]:List ay).toArray},toks:=t_1.toks}:aM)=s_5 at stA FA hacc;have e5:s_5.heap.objs.size=t_1.heap.objs.size+2:=by rw [←JK,l7,l7]
   have Xd:∀b o',t_1.heap.get? b=af o'->s_5.heap.get? b=af o':=λb o' h=>by refine (JK).symm▸ ?_;exact aP _ (aP _ h)
   have Zp:St 0 s_5.heap:=(It.walks A hA).frame _ _ _ O8 λb _ o' h=>by refine (JK).symm▸ ?_;exact aP _ h
   have Sq:(t_1.heap.push o).objs.size=t_1.heap.objs.size+1:=l7 ..;refine wpAny_newFunctionEnv (s:=s_5) k3 (by intro y hy;simp at hy) (λh' hns hsb=>?_) k1;have OG:∀b o',s_5.heap.get? b=af o'->h'.get? b=af o':=λb o' h=>by refine (hsb.2 b (bP (dj h))).trans ?_;exact aP _ h
   generalize OH:({s_5 with heap:=h',toks:=s_5.toks+([]:List (Str × ay)).length}:aM)=s_6;have h6:s_6.heap=h':=by exact congrArg _ (OH).symm
   have FC:Fits B _ _ [] _ _ fl s_6:=FA.comp hc (ax _) (λb o' h=>by refine h6▸ ?_;exact OG b o' h) (by refine h6▸ ?_;exact hns) (λx=>rfl) (by exact (OH).symm▸rfl);refine lmap e3 λr hgs e3=>?_
   ·obtain ⟨u,s_7⟩:=r;obtain ⟨⟩:=e3;have Yv:=F_1.o6 (a:=t_1.heap.objs.size) (ax _);have UU:=FA.o6 (a:=s_5.heap.objs.size) (ax _);refine PN (k:=k) (A:=A) H (λg hg=>⟨(k2 g hg).1,(k2 g hg).2,(hok g hg).1,(hok g hg).2⟩) helt BG hA rm a (⟨t,iter,ifs,as⟩::gs) 0 rfl _ [] _ src u s_7 _ ρ_1 s_6 t_1.heap.objs.size fp St _ hgs FC It ⟨[(t_1.heap.push o).objs.size],rfl⟩ ?_ ?_ ?_ Yv.base Yv.fr hacc λρ' s' st F'=>?_
    ·rw [h6];exact (It.walks A hA).frame _ _ _ Zp λb _ o' h=>OG b o' h
    ·intro h;rcases aG.mp h with h|h
     ·exact Yv.ρ h
     ·have h:=aL.mp h;rw [Sq] at h;exact absurd h (by show (t_1.heap.objs.size:Nat)≠_;exact bP (bU _))
    ·intro h;rcases jJ h with h|h
     ·have:(t_1.heap.objs.size:Nat)=s_5.heap.objs.size:=h;exact absurd (this.trans e5) (bP (sA (lS 1)))
     ·refine aR (oQ (cells F_1) h) λn _ h2=>?_;exact Yv.own (i8 _ (mem_lookup h2))
    ·obtain ⟨stB,FB⟩:=F_1.back (C:=s_5.heap.objs.size) (I:=t_1.heap.objs.size) hc (by show (t_1.heap.objs.size:Nat)<=_;exact cL e5.symm) (ax _) (λb o' h=>by refine h6▸ ?_;exact OG b o' (Xd b o' h))
      ⟨[(t_1.heap.push o).objs.size],rfl,λb hb=>by rw [aL.mp hb,Sq];exact lF _⟩ rfl rfl rfl st F' (by rw [←OH,←JK];exact ⟨rfl,rfl,rfl⟩)
     have nC:s.heap.get? s_5.heap.objs.size=ae:=by
      induction q:s.heap.get? s_5.heap.objs.size using aw with
      |none=>rfl
      |some o'=>obtain ⟨O6,h⟩:=gk.live _ _ q;exact absurd (dj h) (by show¬((s_5.heap.objs.size:Nat)<_);exact Nat.not_lt_of_le (cL e5.symm))
     refine aR F'.mw.loc λmm OF _=>?_;refine post ρ' s' _ s_5.heap.objs.size mm (gk.trans stB) FB (hacc.ext st.ext') ⟨F'.rO _ (fg ..),?_,UU.base,UU.fr⟩ OF nC;exact UU.own
theorem wc{st:eP}(e:cU c (.ListComp elt gens scope pos) up.sc up.vals up.fz st=af (v,s₁)):firstAsync gens=bc:=by
 dsimp only [cU] at e;split at e
 ·exact nn e
 ·rename_i hc0
  have hc:wJ scope up.sc gens=ao:=by simpa using hc0
  refine cT (qB hc) λk1 k2 _=>?_;induction gens using aC with
  |nil=>rfl
  |cons g gs=>
   have:=(k2 g (fg ..)).1;obtain ⟨t,iter,ifs,as⟩:=g;simp only at this;subst this;rfl
theorem MB{C:bj}(st:Step ρ (wr up env) s ρ' s')(F:Fits B ρ' σ fr up env fl s')(o6:Hid B ρ' env up C)(hC:s.heap.get? C=ae)(hs:il C s'.heap h'):
  Step ρ (wr up env) s ρ' {s' with heap:=h'}/\Fits B ρ' σ fr up env fl {s' with heap:=h'}:=
 have hk:∀b o,b≠C->s'.heap.get? b=af o->h'.get? b=af o:=λb o hb h=>(hs.2 b hb).trans h
 ⟨st.iter (tk:=s'.toks) hC hk,F.iter o6.ρ o6.own o6.base o6.fr hk s'.toks⟩
theorem PO(H:yO B c k)(hok:∀g∈gens,(∀e∈g.ifs,o8 B c k e)/\dP B c k g.iter)(helt:dP B c k elt):dP B c k (.ListComp elt gens scope pos):=λenv fl up fr σ v s₁ e A ρ s Q E rm a F q=>by
 rw [eval_ListComp];have hf:=wc e;refine hf▸ ?_;refine I2 H hok helt e rm a F λρ' s' acc C m st F' hv o6 hn hC=>?_;exact ⟨m,hn,λh' hs=>let ⟨st',zb⟩:=MB st F' o6 hC hs;q ρ' _ acc st' zb hv⟩
end
section
variable{k:Lv}
theorem PQ:dP B c k (.Dict [] [] pos):=λenv fl up fr σ v s₁ e A ρ s Q E rm a F q=>by
 dsimp only [cU] at e;refine cT (eQ e) λhz q'1 q'2=>?_;obtain rfl:=q'1;obtain rfl:=q'2;refine wpAny_Dict_empty ?_;refine cT (F.alloc (o:=.dict []) (r:={cls:=.type "dict",data:=.dict #[]}) ⟨⟨#[],0,[],⟨rfl,rfl,rfl⟩,rfl,(λ_ h=>by simp at h),.nil,by exact iK rfl,trivial⟩,by simp⟩ s.toks) λa1 a2 a3=>?_;exact q _ _ _ a1 a2 a3
end
section
variable{k:Lv}
theorem MC{x:ay}{f:bj}(F:Fits B ρ σ fr up env fl s)(H:eh c B)(e:ew c o name up.fz ⟨fr,σ⟩=af (.fn f,s₁))(hx:cA ρ o x)
  (q:∀p,x= .ref p->fnIn B.K f=ao->Q (.ref s.heap.objs.size) {s with heap:=s.heap.push (methodObj (.ref f) x),toks:=s.toks+1}):wpAny (model B.pr B.w) A (oE x name ao) Q E s:=by
 refine ef e (λy w e1=>sY e1 λid _ h _=>by injection h) (λ_ e1=>?_);refine objE e1 λob h1 e2=>?_;refine ef e2 (λy w e3=>?_) (λ_ e3=>sY e3 λid _ h _=>by injection h);obtain rfl:=Dq w;refine AP H e3 λes f' h2 hf hz h5 h6=>?_;injection h5 with h5
 subst h5;simp only [wI,aS,beq_iff_eq] at hz;obtain ⟨hz1,hz2,GG,Zq,hz5,hz6,hz7,hz8⟩:=hz;refine cT (mJ hz1) λk1 k2 _=>?_;refine gH (F.Dt H.aj h1 hx h2) λp pa ho ds r'5=>?_;refine vB r'5 λn q'4 g1 g2 g3 g4 r'6=>?_;refine cT r'6 λJH g5 I=>?_;subst q'4;have hl:lookIn name ho=af ae:=by
  refine (yL g3 g4).trans ?_;have:=g5 name;rw [hU.mp GG] at this;rw [show tB ds name=ae from this]
 exact get_bind F.isIn I k1 (findObj_fn Zq hf hz5 hz6 (by simpa using hz7) hl) k2 (pU (fn_get (s:={s with toks:=s.toks+1}) F.isIn hz2 (handed_on rfl (q p rfl hz8))))
end
section
variable{k:Lv}
theorem MD{o:au}{ap:Pos}(hn:args.all notStar=bc)(H:yO B c k)(hc:kF B c k)(ho:dP B c k o)(ha:o7 B c k args)(hstar:∀e p,args= [.Starred e p]->dP B c k e):dP B c k (.Call (.Attribute o name ap) args [] pos):=
 λenv fl up fr σ v s₁ e A ρ s Q E rm fa F q=>by
 dsimp only [cU] at e;split at e
 ·exact nn e
 ·rename_i hb
  simp only [ez,lY,not_or,yx,decide_eq_false_iff_not,yy,beq_eq_false_iff_ne,ne_eq] at hb;obtain ⟨⟨hb1,hb2⟩,hb3⟩:=hb;refine bQ e λw s_2 h1 e1=>?_;refine bQ e1 λm s_3 h2 GH=>?_;induction m using Me.casesOn with
  |bi id=>rw [hn] at GH;exact nn GH
  |fn f=>
   have e2:(do let as←uE c args up.sc up.vals;ec (←eJ c w (.fn f) as):M V) up.fz s_3=af (v,s₁):=by
    rw [show (Me.fn f).isFn=ao from rfl,Bool.or_true,if_pos rfl] at GH;exact GH
   refine bQ e2 λws s_4 h3 e3=>?_;refine bQ e3 λr s_5 h4 e4=>?_;obtain ⟨rfl,rfl⟩:=yP e4;show wpAny _ A (nq o name env (eval o env)>>=λov=>lh ap.atName>>=λ_=>pZ o name ap pos env ov (args.length+0) (ka pos (fG args env)) []) Q E s;refine (sZ hb1)▸ ?_;refine aB (ho env fl up fr σ w s_2 h1 A ρ s _ E rm fa F λρ_1 t_1 vo st F_1 Il=>aB (eC ?_));have many:lZ (args.length+0) (ka pos (fG args env)) []=bc:=by
    dsimp only [lZ];have:(ka pos (fG args env)).all (!·.1)=bc:=by
     clear h3 e2 ha hstar hb3 e3 GH e1 e;induction args with
     |nil=>injection hn
     |cons e r ih=>
      rw [iC] at hn;rcases Ae e with he|⟨y,p,rfl⟩
      ·rw [he,Bool.true_and] at hn;refine (kP he)▸ ?_;show (ao&&(ka pos (fG r env)).all (!·.1))=bc;rw [ih hn];rfl
      ·rfl
    rw [this];rfl
   dsimp only [pZ];refine many▸ ?_;refine aB (dX ?_);show wpAny _ A (oE vo name ao>>=λf=>aA (f,[])) _ E t_1;have Rr:s_3=⟨s_2.fr,s_2.os⟩:=(xG (A:=A) (E:=E) (pl:=aA ao) (Q:=λ_ _=>True) F_1 H.n9 h2 Il trivial).1;subst Rr;refine aB (MC (A:=A) (E:=E) F_1 H.n9 h2 Il λp hp hfn=>bG ?_);subst hp;refine aB (nO (a:=pos) (by dsimp only [wy];rfl) ?_);have h5:dN c (.top f) (w::ws) up.fz ⟨s_4.fr,s_4.os⟩=af (.ret v,s₁):=h4;obtain ⟨stH,FH⟩:=F_1.hidden (methodObj (.ref f) (.ref p)) (t_1.toks+1);have Lm:=F_1.o6 (a:=t_1.heap.objs.size) (ax _);refine jZ (P:=MethP B.K t_1.heap.objs.size f (.ref p)) (keeps_M hfn) (xJ H.n9 ha hstar h3 rm fa FH λρ_2 t_2 vs st' F_2 hvs=>⟨⟨?_,F_2.isIn⟩,?_⟩)
   ·exact st'.keep _ _ (dc _ rfl) (.inl Lm.ρ) λh=>(aG.mp h).elim Lm.own Lm.fr
   ·have hq2:t_2.heap.get? t_1.heap.objs.size=af (methodObj (.ref f) (.ref p)):=st'.keep _ _ (dc _ rfl) (.inl Lm.ρ) λh=>(aG.mp h).elim Lm.own Lm.fr;exact pU (method_call hq2 (AV (A:=A) (E:=E) (Q:=Q) H hc h5 rm fa F_2 ⟨Il.ext (stH.trans st').ext',hvs⟩ λρ_3 t_3 z st'' F_3 hz=>q ρ_3 t_3 z (((st.trans stH).trans st').trans st'') F_3 hz))
end
section
variable{k:Lv}
theorem kQ[SizeOf α]{x:α}{l:List α}(h:x∈l):sizeOf x<sizeOf l:=uf h
theorem I3{es:List au}(h:∀x∈es,dP B c k x):CK B c k es:=by
 induction es with
 |nil=>exact PG
 |cons x r ih=>
  rcases Ae x with hx|⟨y,p,rfl⟩
  ·exact Mu hx (h x (fg ..)) (ih λy hy=>h y (i8 _ hy))
  ·intro env fl up fr σ v s₁ pos e;dsimp only [AD] at e;refine bQ e λw s_2 h1 e1=>?_;dsimp only [cU] at h1;exact nn h1
theorem Fh{es:List au}(H:eh c B)(h:∀x∈es,dP B c k x)(hs:∀e p,.Starred e p∈es->dP B c k e):o7 B c k es:=by
 induction es with
 |nil=>exact args_nil
 |cons x r ih=>
  have ihr:=ih (λy hy=>h y (i8 _ hy)) λe p hm=>hs e p (i8 _ hm);rcases Ae x with hx|⟨y,p,rfl⟩
  ·exact args_cons hx (h x (fg ..)) ihr
  ·induction r using aC with
   |nil=>exact Kp H (hs y p (fg ..))
   |cons z zs=>
    intro env fl up fr σ v s₁ pos e;dsimp only [uE] at e;refine bQ e λw s_2 h1 e1=>?_;dsimp only [cU] at h1;exact nn h1
theorem g8(h:∀sc up z s,cU c e sc up z s=ae):dP B c k e:=λenv fl up fr σ v s₁ ev=>by rw [h] at ev;exact nn ev
theorem w11{a:Nat}(e:n=1+a):a<n:=ag (tL zR) (ar e.symm)
theorem V0{a:Nat}(e:n=1+a+b):a<n:=ag (tL zR) (ai (aF _ _) (ar e.symm))
theorem Vm{a c:Nat}(e:n=1+a+b+c):a<n:=V0 (e.trans (dC ..))
theorem RY{a c:Nat}(e:n=1+a+b+c+d):a<n:=Vm (e.trans (dC ..))
theorem w22{a:Nat}(e:n=1+a+b):b<n:=V0 (e.trans (by rw [aN 1 a b]))
theorem Vn{a c:Nat}(e:n=1+a+b+c):b<n:=Vm (e.trans (by rw [aN 1 a b]))
theorem PR{a c:Nat}(e:n=1+a+b+c+d):b<n:=Vn (e.trans (dC ..))
theorem O0{a c:Nat}(e:n=1+a+b+c+d):c<n:=PR (e.trans (by rw [aN (1+a) b c]))
def SE(B:lH)(c:Cx)(k:Lv)(e:au):Prop:=dP B c k e/\o8 B c k e
theorem PT{vs:List au}{op:PySem.BoolOp}(H:yO B c k)(h:∀x∈vs,SE B c k x):dP B c k (.BoolOp op vs pos):=by
 induction vs using aC with
 |nil=>induction op using eS<;>exact g8 λ_ _ _ _=>rfl
 |cons a r=>
  induction r using aC with
  |nil=>induction op using eS<;>exact g8 λ_ _ _ _=>rfl
  |cons b r=>
   induction r using aC with
   |cons _ _=>induction op using eS<;>exact g8 λ_ _ _ _=>rfl
   |nil=>
    have h1:=(h a (fg ..)).1;have h2:=(h b (i8 _ (fg ..))).1;clear h;induction op using eS with
    |And=>exact g8 λ_ _ _ _=>rfl
    |Or=>exact VW H.n9 h1 h2
theorem PU{l:au}{ops:List PySem.CmpOp}{rs:List au}(H:yO B c k)(hl:dP B c k l)(h:∀x∈rs,SE B c k x):dP B c k (.Compare l ops rs pos):=by
 induction ops using aC with
 |nil=>exact g8 λ_ _ _ _=>rfl
 |cons op ops=>
  induction ops using aC with
  |cons _ _=>exact g8 λ_ _ _ _=>rfl
  |nil=>
   induction rs using aC with
   |nil=>exact g8 λ_ _ _ _=>rfl
   |cons r rs=>
    induction rs using aC with
    |cons _ _=>exact g8 λ_ _ _ _=>rfl
    |nil=>exact Tt H.n9 hl (h r (fg ..)).1
theorem PV{vs:List au}:dP B c k (.JoinedStr vs pos):=by
 induction vs using aC with
 |nil=>exact g8 λ_ _ _ _=>rfl
 |cons x r=>
  induction x using bf with
  |Constant kd u p=>
   induction kd using vY with
   |str s=>
    induction r using aC with
    |nil=>exact Kr
    |cons _ _=>exact g8 λ_ _ _ _=>rfl
   |_=>exact g8 λ_ _ _ _=>rfl
  |_=>exact g8 λ_ _ _ _=>rfl
theorem ME{ks:List (Option au)}{vs:List au}:dP B c k (.Dict ks vs pos):=by
 induction ks using aC with
 |cons _ _=>exact g8 λ_ _ _ _=>rfl
 |nil=>
  induction vs using aC with
  |nil=>exact PQ
  |cons _ _=>exact g8 λ_ _ _ _=>rfl
theorem MF{f:au}{kws:List PySem.Keyword}(H:yO B c k)(hc:kF B c k)(hf:dP B c k f)(ho:∀o n p,f= .Attribute o n p->dP B c k o)(h:∀x∈args,SE B c k x)(hst:∀x p,.Starred x p∈args->dP B c k x):dP B c k (.Call f args kws pos):=by
 induction kws using aC with
 |cons _ _=>exact g8 λ_ _ _ _=>by clear hf ho;induction f using bf<;>rfl
 |nil=>
  have ha:=Fh H.n9 (λx hx=>(h x hx).1) hst;have Gl:∀x p,args= [.Starred x p]->dP B c k x:=λx p h=>hst x p (h▸fg ..);refine vQ (PF f) (λhq=>PL hq H hc hf ha Gl) λhq=>?_;refine sO hq λo name ap e=>?_;subst e;have ho:=ho o name ap rfl;clear hf;induction hns:args.all notStar using cF with
  |true=>exact PM hns H hc ho ha
  |false=>exact MD hns H hc ho ha Gl
theorem PW{o i:au}(H:yO B c k)(ho:dP B c k o)(hi:dP B c k i)(hp:∀l u st p,i= .Slice l u st p->B8 B c k l/\B8 B c k u/\B8 B c k st):dP B c k (.Subscript o i pos):=by
 rcases Mz i with hs|⟨l,u,st,p,rfl⟩
 ·exact Tz H.n9 hs ho hi
 ·have q:=hp l u st p rfl;exact MA H.n9 ho q.1 q.2.1 q.2.2
theorem TA{x:Option au}(h:∀y,x=af y->dP B c k y):B8 B c k x:=by
 induction x using aw with
 |none=>exact PJ
 |some y=>exact PK (h y rfl)
theorem TB(H:yO B c k)(hc:kF B c k)(e:au)(IH:∀x,sizeOf x<sizeOf e->SE B c k x):dP B c k e:=by
 induction e using bf with
 |Constant kd u pos=>exact Mv
 |Name x pos=>exact DB H.n9
 |NamedExpr t v pos=>
  have h:=(IH v (Vn (yz ..))).1;clear IH;induction t using bf with
  |Name x p=>exact Kq h
  |_=>exact g8 λ_ _ _ _=>rfl
 |BoolOp op vs pos=>exact PT H λx hx=>IH x (aD (kQ hx) (Vn (nP ..)))
 |BinOp l op r pos=>exact Ts H.n9 (IH l (RY (n5 ..))).1 (IH r (O0 (n5 ..))).1
 |UnaryOp op x pos=>
  have h:=(IH x (Vn (PySem.Expr.UnaryOp.sizeOf_spec ..))).1;clear IH;induction op using PySem.UnaryOp.casesOn with
  |USub=>exact Tu h
  |_=>exact g8 λ_ _ _ _=>rfl
 |IfExp t b o pos=>exact Mw (IH t (RY (jA ..))).2 (IH b (PR (jA ..))).1 (IH o (O0 (jA ..))).1
 |Dict ks vs pos=>exact ME
 |List es pos=>exact PH (I3 λx hx=>(IH x (aD (kQ hx) (V0 (PySem.Expr.List.sizeOf_spec ..)))).1)
 |Tuple es u pos=>exact Mx (I3 λx hx=>(IH x (aD (kQ hx) (Vm (PySem.Expr.Tuple.sizeOf_spec ..)))).1)
 |Compare l ops rs pos=>exact PU H (IH l (RY (fX ..))).1 λx hx=>IH x (aD (kQ hx) (O0 (fX ..)))
 |Call f args kws pos=>
  have h1:=RY (oK f args kws pos);have h2:=PR (oK f args kws pos);exact MF H hc (IH f h1).1 (λo n p q=>(IH o (aD (Vm (q▸l8 o n p)) h1)).1) (λx hx=>IH x (aD (kQ hx) h2)) λx p hx=>(IH x (aD (V0 (PySem.Expr.Starred.sizeOf_spec x p)) (aD (kQ hx) h2))).1
 |JoinedStr vs pos=>exact PV
 |Attribute o a pos=>exact PI H.n9 (IH o (Vm (l8 ..))).1
 |Subscript o i pos=>
  have h2:=Vn (l9 o i pos);refine PW H (IH o (Vm (l9 ..))).1 (IH i h2).1 λl u st p q=>?_;have pt:∀x:Option au,sizeOf x<sizeOf i->B8 B c k x:=λx hx=>TA λy e=>(IH y (aD (w11 (e▸Option.some.sizeOf_spec y)) (aD hx h2))).1;have sp:=q▸PySem.Expr.Slice.sizeOf_spec l u st p;exact ⟨pt l (RY sp),pt u (PR sp),pt st (O0 sp)⟩
 |ListComp elt gens scope pos=>
  refine PO H (λg hg=>?_) (IH elt (RY (mr ..))).1;induction g using PySem.Comprehension.casesOn with
  |mk t iter ifs as=>
   have h2:=aD (kQ hg) (PR (mr elt gens scope pos));have sp:=xd t iter ifs as;exact ⟨λx hx=>(IH x (aD (kQ hx) (aD (O0 sp) h2))).2,(IH iter (aD (PR sp) h2)).1⟩
 |_=>exact g8 λ_ _ _ _=>rfl
theorem PX(h:∀whole sc up z s,tU c e sc up whole z s=ae):o8 B c k e:=λenv fl up fr σ b s₁ e=>nn ((h ..).symm.trans e)
theorem PY{vs:List au}{op:PySem.BoolOp}(h:∀x∈vs,SE B c k x):o8 B c k (.BoolOp op vs pos):=by
 induction vs using aC with
 |nil=>induction op using eS<;>exact PX λ_ _ _ _ _=>rfl
 |cons a r=>
  induction r using aC with
  |nil=>induction op using eS<;>exact PX λ_ _ _ _ _=>rfl
  |cons b r=>
   induction r using aC with
   |cons _ _=>induction op using eS<;>exact PX λ_ _ _ _ _=>rfl
   |nil=>
    have h1:=(h a (fg ..)).2;have h2:=(h b (i8 _ (fg ..))).2;clear h;induction op using eS with
    |And=>exact Tv h1 h2
    |Or=>exact VX h1 h2
theorem PZ{l:au}{ops:List PySem.CmpOp}{rs:List au}(H:yO B c k)(hl:dP B c k l)(h:∀x∈rs,SE B c k x):o8 B c k (.Compare l ops rs pos):=by
 induction ops using aC with
 |nil=>exact PX λ_ _ _ _ _=>rfl
 |cons op ops=>
  induction ops using aC with
  |cons _ _=>exact PX λ_ _ _ _ _=>rfl
  |nil=>
   induction rs using aC with
   |nil=>exact PX λ_ _ _ _ _=>rfl
   |cons r rs=>
    induction rs using aC with
    |cons _ _=>exact PX λ_ _ _ _ _=>rfl
    |nil=>exact Tw H.n9 hl (h r (fg ..)).1
theorem TC(H:yO B c k)(e:au)(IH:∀x,sizeOf x<sizeOf e->SE B c k x)(main:dP B c k e):o8 B c k e:=by
 induction hp:CM e using cF with
 |true=>exact My H.n9 hp main
 |false=>
  clear main;induction e using bf with
  |BoolOp op vs pos=>exact PY λx hx=>IH x (aD (kQ hx) (Vn (nP ..)))
  |UnaryOp op x pos=>exact PX λ_ _ _ _ _=>rfl
  |IfExp t b o pos=>exact PX λ_ _ _ _ _=>rfl
  |Compare l ops rs pos=>exact PZ H (IH l (RY (fX ..))).1 λx hx=>IH x (aD (kQ hx) (O0 (fX ..)))
  |_=>injection hp
theorem AY(H:yO B c k)(hc:kF B c k):∀(n:Nat) (e:au),sizeOf e<n->SE B c k e:=by
 intro n;induction n with
 |zero=>intro e h;exact absurd h (gD _)
 |succ n ih=>
  intro e hn;have IH:∀x,sizeOf x<sizeOf e->SE B c k x:=λx hx=>ih x (ag hx (dF hn));have m:=TB H hc e IH;exact ⟨m,TC H e IH m⟩
theorem uN(H:yO B c k)(hc:kF B c k)(e:au):dP B c k e:=(AY H hc _ e (bU _)).1
theorem MG(H:yO B c k)(hc:kF B c k)(e:au):o8 B c k e:=(AY H hc _ e (bU _)).2
theorem Hw(H:yO B c k)(hc:kF B c k)(es:List au):o7 B c k es:=Fh H.n9 (λx _=>uN H hc x) λx _ _=>uN H hc x
end
structure I4(env:Env)(fl:List Env)(up:Up):Prop where
 fr:env.frame=af env.locals
 hd:∃outer,fl=env::outer
def DC(s_0 s:aM)(x:ay):Prop:=∃e oe vs,x= .ref e/\s_0.heap.get? e=ae/\s.heap.get? e=af oe/\oe.data= .fields vs/\vs[1]? =af .none
def MH(B:lH)(env:Env)(fl:List Env)(up:Up)(ρ:List bj)(s:aM)(ej:eB)(σ':List O)(f:Fl)(Q:Flow->aM->Prop)(E:ay->aM->Prop):Prop:=match f with
 | .exc i=>∀ρ' s' x C t,Step ρ (wr up env) s ρ' s'->Fits B ρ' σ' ej up env fl s'->cA ρ' (.ref i) x->DC s s' x->σ'[i]? =af (.exc C t)->E x s'
 |f=>∀ρ' s' tZ,Step ρ (wr up env) s ρ' s'->Fits B ρ' σ' ej up env fl s'->VV ρ' f tZ->Q tZ s'
def uO(B:lH)(c:Cx)(k:Lv)(st:fV):Prop:=∀(env:Env) (fl:List Env) (up:Up) (fr:eB) (σ:List O) (f:Fl) (s₁:eP),I4 env fl up->CA c up.sc up.vals st up.fz ⟨fr,σ⟩=af (f,s₁)->
 ∀(A:iW) (ρ:List bj) (s:aM) (Q:Flow->aM->Prop) (E:ay->aM->Prop),kE A k->A.frames=af fl->Fits B ρ σ fr up env fl s->MH B env fl up ρ s s₁.fr s₁.os f Q E->wpAny (model B.pr B.w) A (exec st env) Q E s
def lL(B:lH)(c:Cx)(k:Lv)(st:List fV):Prop:=∀(env:Env) (fl:List Env) (up:Up) (fr:eB) (σ:List O) (f:Fl) (s₁:eP),I4 env fl up->jG c up.sc up.vals st up.fz ⟨fr,σ⟩=af (f,s₁)->
 ∀(A:iW) (ρ:List bj) (s:aM) (Q:Flow->aM->Prop) (E:ay->aM->Prop),kE A k->A.frames=af fl->Fits B ρ σ fr up env fl s->MH B env fl up ρ s s₁.fr s₁.os f Q E->wpAny (model B.pr B.w) A (execs st env) Q E s
theorem MH.next{B env fl up ρ s ej σ' Q E}(q:MH B env fl up ρ s ej σ' .next Q E)(st:Step ρ (wr up env) s ρ' s')(F:Fits B ρ' σ' ej up env fl s'):Q .next s':=q ρ' s' .next st F rfl
theorem DC.back{s_0:aM}{x:ay}{ρ W ρ'}(st:Step ρ W s_0 ρ' s)(h:DC s s' x):DC s_0 s' x:=by
 refine jo h λe oe vs h1 h2 h3=>?_;refine ⟨e,oe,vs,h1,?_,h3⟩;induction q:s_0.heap.get? e using aw with
 |none=>rfl
 |some o=>obtain ⟨o',h'⟩:=st.live e o q;rw [h2] at h';exact nn h'
theorem MH.after{B env fl up ρ s ej σ' f Q E ρ_1 s₁}(q:MH B env fl up ρ s ej σ' f Q E)(st:Step ρ (wr up env) s ρ_1 s₁):MH B env fl up ρ_1 s₁ ej σ' f Q E:=by
 induction f using Fl.casesOn with
 |exc i=>exact λρ' s' x C t st' F hx hr=>q ρ' s' x C t (st.trans st') F hx (hr.back st)
 |next=>exact λρ' s' tZ st' F h=>q ρ' s' tZ (st.trans st') F h
 |brk=>exact λρ' s' tZ st' F h=>q ρ' s' tZ (st.trans st') F h
 |cont=>exact λρ' s' tZ st' F h=>q ρ' s' tZ (st.trans st') F h
 |ret v=>exact λρ' s' tZ st' F h=>q ρ' s' tZ (st.trans st') F h
theorem MH.P0{B env fl up ρ s ej σ' f Q E}(q:MH B env fl up ρ s ej σ' f Q E)(hf:∀i,f≠ .exc i):∀ρ' s' tZ,Step ρ (wr up env) s ρ' s'->Fits B ρ' σ' ej up env fl s'->VV ρ' f tZ->Q tZ s':=by
 induction f using Fl.casesOn with
 |exc i=>exact absurd rfl (hf i)
 |_=>exact q
theorem wO{f f':Fl}{s s':eP}(h:AA f z s=af (f',s')):f=f'/\s=s'/\∀i,f'≠ .exc i:=by
 induction f using Fl.casesOn with
 |exc i=>exact nn h
 |next=>obtain ⟨rfl,rfl⟩:=aK h;exact ⟨rfl,rfl,λi h=>by injection h⟩
 |brk=>obtain ⟨rfl,rfl⟩:=aK h;exact ⟨rfl,rfl,λi h=>by injection h⟩
 |cont=>obtain ⟨rfl,rfl⟩:=aK h;exact ⟨rfl,rfl,λi h=>by injection h⟩
 |ret v=>obtain ⟨rfl,rfl⟩:=aK h;exact ⟨rfl,rfl,λi h=>by injection h⟩
noncomputable def xM(e:au):Bool:= !(ij e.ctorIdx 8)
theorem P1(e:au):xM e=ao∨∃x g sc p,e= .ListComp x g sc p:=by
 induction e using bf<;>first|exact .inl rfl|exact .inr ⟨_,_,_,_,rfl⟩
section
variable{k:Lv}
theorem AZ{t:Option au}{st:eP}(hn:xM e=ao)(ev:cU c e up.sc up.vals up.fz st=af (v,s₁)):swapsWith e t n env=aA bc:=by
 induction e using bf<;>first|rfl|(injection hn;done)|(dsimp only [cU] at ev;exact nn ev)
theorem Hx{st:eP}(hn:xM e=ao)(ev:cU c e up.sc up.vals up.fz st=af (v,s₁)):wA ts e n env=aA bc:=by
 match ts with
 | []=>rfl
 | [t]=>exact AZ hn ev
 |_::_::_=>rfl
theorem P2(h:dP B c k e):uO B c k (.Expr e pos):=λenv fl up fr σ f s₁ hF ev A ρ s Q E rm a F q=>by
 refine Ta ev λhn ev=>?_;have hn:xM e=ao:=by unfold xM;rw [yA.mpr hn];rfl
 refine bQ ev λw s_2 h1 e1=>?_;obtain ⟨rfl,rfl⟩:=aK e1;refine wpAny_Expr_any (h env fl _ fr σ w _ h1 A ρ s _ E rm a F λρ' s' x st F' _=>q.next st F') (by dsimp only [interactive];refine F.ok.kind▸ ?_;rfl) (AZ hn h1)
theorem Ku{t:au}{x:ay}{Q:Unit->aM->Prop}(H:eh c B)(hev:∀e,dP B c k e)
  (e:G3 c up.sc up.vals v t up.fz ⟨fr,σ⟩=af (u,s₁)) (rm:kE A k) (a:A.frames=af fl) (F:Fits B ρ σ fr up env fl s) (hx:cA ρ v x) (q:KA B env fl up ρ s s₁.fr s₁.os () Q):wpAny (model B.pr B.w) A (assign t env x) Q E s:=by
 refine ef e (λn w e=>?_) (λ_ e=>?_)
 ·refine lG (wL w) λp h=>?_;subst h;exact jR (o9 (k:=k) e rm a F hx q)
 refine ef e (λoa w e=>?_) (λ_ e=>?_)
 ·refine bQ e λw' s_2 h1 e1=>?_;rw [G7 w];show wpAny _ A (do let ov←holding [x] (eval oa.1 env);lh oa.2.2.atName;holding [x,ov] (Al ov oa.2.1 x);release [x,ov] []) Q E s;refine aB (dX (hev oa.1 env fl up fr σ w' s_2 h1 A ρ s _ E rm a F λρ_1 t_1 y st F_1 hy=>aB (eC (aB (dX ?_)))));exact AO F_1 H e1 hy (hx.ext st.ext') λρ_2 t_2 st' F_2=>wpAny_release (q ρ_2 t_2 (st.trans st') F_2)
 ·refine bZ e λoi w e=>?_;refine bQ e λw' s_2 h1 e1=>?_;refine bQ e1 λw'' s_3 h2 e2=>?_;refine lG (RR w) λp h=>?_;rw [h,arm_assign_Subscript];refine aB (dX (hev oi.1 env fl up fr σ w' s_2 h1 A ρ s _ E rm a F λρ_1 t_1 y st F_1 hy=>aB (dX ?_)));refine hev oi.2 env fl up s_2.fr s_2.os w'' s_3 h2 A ρ_1 t_1 _ E rm a F_1 λρ_2 t_2 z st' F_2 hz=>aB (eC (aB (dX ?_)));exact Hf F_2 H.aj e2 (hy.ext st'.ext') hz ((hx.ext st.ext').ext st'.ext') λρ_3 t_3 st'' F_3=>wpAny_release (q ρ_3 t_3 ((st.trans st').trans st'') F_3)
theorem Cb{t:au}{st:eP}(e:G3 c up.sc up.vals v t up.fz st=af (u,s₁)):iF (t::ts) env=(bc,assign t env)::iF ts env:=by
 induction t using bf<;>first|rfl|exact nn e
theorem Hy:∀(ts:List au) {v:V}{x:ay}{u:Unit}{s₁:eP}{env:Env}{fl:List Env}{up:Up}{fr:eB}{σ:List O}{A:iW}{ρ:List bj}{s:aM}{Q:Unit->aM->Prop}{E:ay->aM->Prop}(H:eh c B) (hev:∀e,dP B c k e)
  (e:z6 c up.sc up.vals v ts up.fz ⟨fr,σ⟩=af (u,s₁)) (rm:kE A k) (a:A.frames=af fl) (F:Fits B ρ σ fr up env fl s) (hx:cA ρ v x) (q:KA B env fl up ρ s s₁.fr s₁.os () Q),wpAny (model B.pr B.w) A (assignAll x ((iF ts env).map (·.2))) Q E s:=by
 intro ts;induction ts with
 |nil=>
  intro v x u s₁ env fl up fr σ A ρ s Q E H hev e rm a F hx q;obtain ⟨_,rfl⟩:=aK (a:=()) e;exact bG (q.same F)
 |cons t r ih=>
  intro v x u s₁ env fl up fr σ A ρ s Q E H hev e rm a F hx q;refine bQ e λu' s_2 h1 e1=>?_;refine (Cb h1)▸ ?_;have one:∀{Q':Unit->aM->Prop},(∀ρ' s',Step ρ (wr up env) s ρ' s'->Fits B ρ' s_2.os s_2.fr up env fl s'->Q' () s')->wpAny (model B.pr B.w) A (assign t env x) Q' E s:=λq'=>Ku H hev h1 rm a F hx q';induction hr:(iF r env).map (·.2) using aC with
  |nil=>
   have hr':r= []:=by
    induction r using aC with
    |nil=>rfl
    |cons y ys=>induction y using bf<;>injection hr
   subst hr';obtain ⟨_,rfl⟩:=aK (a:=()) e1;exact one q
  |cons y ys=>
   show wpAny _ A (assignAll x (assign t env::(iF r env).map (·.2))) Q E s;refine hr▸ ?_;show wpAny _ A (holding [x] (assign t env x)>>=λ_=>assignAll x (y::ys)) Q E s;refine aB (dX (one λρ_1 t_1 st F_1=>?_));refine (hr).symm▸ ?_;exact ih H hev e1 rm a F_1 (hx.ext st.ext') λρ_2 t_2 st' F_2=>q ρ_2 t_2 (st.trans st') F_2
theorem DD{st:eP}(h:z6 c up.sc up.vals v ts up.fz st=af (u,s₁)):swappedStores ts e env=aA ae:=by
 match ts with
 | []=>rfl
 | [t]=>
  refine bQ h λu' s_2 h1 e1=>?_;induction t using bf<;>first|rfl|exact nn h1
 |_::_::_=>
  refine bQ h λu' s_2 h1 e1=>?_
  rename_i t _ _
  induction t using bf<;>first|rfl|exact nn h1
theorem Kv(H:yO B c k)(hev:∀e,dP B c k e)(hts:∀e,o8 B c k e):uO B c k (.Assign ts e pos):=λenv fl up fr σ f s₁ hF ev A ρ s Q E rm a F q=>by
 refine bQ ev λw s_2 h1 e1=>?_;refine bQ e1 λu s_3 h2 e2=>?_;obtain ⟨rfl,rfl⟩:=aK e2;have plain:wA ts e pos.line env=aA bc->wpAny (model B.pr B.w) A (exec (.Assign ts e pos) env) Q E s:=λhs=>by
  refine wpAny_Assign_stores (hev e env fl up fr σ w _ h1 A ρ s _ E rm a F λρ_1 t_1 x st F_1 hx=>?_) hs (DD h2);exact Hy ts H.n9 hev h2 rm a F_1 hx λρ_2 t_2 st' F_2=>q.next (st.trans st') F_2
 rcases P1 e with hn|⟨elt,gens,scope,p,rfl⟩
 case inl=>exact plain (Hx hn h1)
 case inr=>
  have Zr:(∃b,wA ts (.ListComp elt gens scope p) pos.line env=aA b/\(b=ao->∃y py,ts= [.Name y py])):=by
   match ts with
   | []=>exact ⟨bc,rfl,λh=>by injection h⟩
   | [t]=>
    induction t using bf with
    |Name y py=>exact ⟨_,rfl,λ_=>⟨y,py,rfl⟩⟩
    |_=>exact ⟨bc,rfl,λh=>by injection h⟩
   |_::_::_=>exact ⟨bc,rfl,λh=>by injection h⟩
  refine aR Zr λb hb hy=>?_;induction b using cF with
  |false=>exact plain hb
  |true=>
   refine An (hy rfl) λy py q'1=>?_;obtain rfl:=q'1;have hb':swapsWith (.ListComp elt gens scope p) (af (.Name y py)) pos.line env=aA ao:=hb;refine (exec_Assign_Name_used _ _ _ _ hb')▸ ?_;refine aB (eC (aB ?_));have hf:=wc h1;show wpAny _ A (do let _←comprehension (.ListComp elt gens scope p) scope env (firstIterPos gens p) (newList []) (firstAsync gens) (firstIter gens env) (af (assign (.Name y py) env))) _ _ s;refine hf▸ ?_;refine aB (fW (I2 (use:=af (assign (.Name y py) env)) (Q:=λ_ s'=>Q .next s') H (λg _=>⟨λx _=>hts x,hev _⟩) (hev elt) h1 rm a F λρ' s' acc C m st F' hv o6 hn hC=>?_) (λ_ s' hq=>bG (bG hq)) λ_ _ e=>e);show wpAny _ A (assign (.Name y py) env acc) _ _ s';have h2':setC up.sc y w up.fz ⟨s_2.fr,s_2.os⟩=af ((),s₁):=by
    refine bQ h2 λu' s_4 h3 e3=>?_;obtain ⟨_,rfl⟩:=aK (a:=()) e3;exact h3
   refine jR (o9 (k:=k) h2' rm a F' hv λρ_2 t_2 st' F_2=>?_);refine jo (id hn) λo es n g1 g2 g3=>?_;have hkC:t_2.heap.get? C=af o:=st'.keep C o g1 (.inl o6.ρ) λh=>(aG.mp h).elim o6.own o6.fr;have UW:Hid B ρ_2 env up C:=by
    refine ⟨λh=>?_,o6.own,o6.base,o6.fr⟩;refine aR st'.ext λm' e' hm'=>?_;rw [e'] at h;rcases aG.mp h with h|h
    ·exact o6.ρ h
    ·rw [hm' C h] at g1;exact nn g1
   refine ⟨m,⟨o,es,n,hkC,g2,g3⟩,λh' hs=>?_⟩;obtain ⟨st'',zb⟩:=MB (st.trans st') F_2 UW hC hs;exact q.next st'' zb
theorem TF{t:au}{op:yp}(H:eh c B)(hev:∀e,dP B c k e):uO B c k (.AugAssign t op e pos):=λenv fl up fr σ f s₁ hF ev A ρ s Q E rm a F q=>by
 refine nE ev λoa hw JI=>?_;clear ev;obtain ⟨o,at',tp⟩:=oa;have ht:=G7 hw;subst ht;refine bQ JI λw s_2 h1 e1=>?_;refine bQ e1 λold s_3 h2 e2=>?_;refine bQ e2 λv s_4 h3 e3=>?_;refine bQ e3 λnew s_5 h4 e4=>?_;refine bQ e4 λu s_6 h5 e5=>?_;obtain ⟨rfl,rfl⟩:=aK e5;refine wpAny_AugAssign_AttributeAny (hev o env fl up fr σ w _ h1 A ρ s _ E rm a F λρ_1 t_1 x gk F_1 hx=>?_);refine IY F_1 H h2 hx λρ_2 t_2 y kB F_2 hy=>?_;refine hev e env fl up s_3.fr s_3.os v _ h3 A ρ_2 t_2 _ E rm a F_2 λρ_3 t_3 z kC F_3 hz=>?_;have fin:∀{r:ay}{tk:Nat},s_5=s_4->cA ρ_3 new r->wpAny (model B.pr B.w) A (Al x at' r) (λ_=>Q .next) E {t_3 with toks:=tk}:=λhs hr=>by
  subst hs;exact AO (F_3.toks _) H h5 ((hx.ext kB.ext').ext kC.ext') hr λρ_4 t_4 mz F_4=>q.next (((gk.trans kB).trans kC).trans (Step.toks.trans mz)) F_4
 refine rP h4 (hy.ext kC.ext') hz λi j u u' w1 w2 h4=>?_;subst w1;subst w2;induction op using tD with
 |Add=>
  obtain ⟨rfl,rfl⟩:=aK h4;exact PySem.AutoIntOps.iadd_0 (fin rfl ⟨_,rfl⟩)
 |Sub=>
  obtain ⟨rfl,rfl⟩:=aK h4;exact PySem.AutoIntOps.isub_0 (fin rfl ⟨_,rfl⟩)
 |_=>exact nn h4
theorem TG(H:eh c B)(hev:∀e,dP B c k e):uO B c k (.Delete ts pos):=λenv fl up fr σ f s₁ hF ev A ρ s Q E rm a F q=>by
 refine nE ev λoi hw JI=>?_;clear ev;obtain ⟨o,i⟩:=oi;refine eW hw λt hw1 Yw=>?_;refine lG (RR Yw) λp ht=>?_;rw [AG hw1,ht];refine bQ JI λw s_2 h1 e1=>?_;refine bQ e1 λv s_3 h2 e2=>?_;refine bQ e2 λu s_4 h3 e3=>?_;obtain ⟨rfl,rfl⟩:=aK e3;refine wpAny_Delete (wpAny_deleteEach_cons (wpAny_delete_Subscript (hev o env fl up fr σ w _ h1 A ρ s _ E rm a F λρ_1 t_1 x gk F_1 hx=>?_)));refine hev i env fl up s_2.fr s_2.os v _ h2 A ρ_1 t_1 _ E rm a F_1 λρ_2 t_2 y kB F_2 hy=>?_;exact Hg F_2 H.aj h3 (hx.ext kB.ext') hy λρ_3 t_3 kC F_3=>wpAny_deleteEach_nil (q.next ((gk.trans kB).trans kC) F_3)
theorem TH{e:Option au}(h:∀e,dP B c k e):uO B c k (.Return e pos):=λenv fl up fr σ f s₁ hF ev A ρ s Q E rm a F q=>by
 refine bQ ev λw s_2 h1 e1=>?_;obtain ⟨rfl,rfl⟩:=aK e1;induction e using aw with
 |none=>
  obtain ⟨rfl,rfl⟩:=aK (a:=fU) h1;exact wpAny_Return_none (q ρ s _ Step.refl F ⟨_,rfl,rfl⟩)
 |some e=>exact qP (h e env fl up fr σ w _ h1 A ρ s _ E rm a F λρ' s' x st F' hx=>q ρ' s' _ st F' ⟨x,rfl,hx⟩)
theorem MI:uO B c k (.Break pos):=λenv fl up fr σ f s₁ hF ev A ρ s Q E rm a F q=>by
 dsimp only [CA] at ev;obtain ⟨rfl,rfl⟩:=aK ev;exact wpAny_Break (q ρ s _ Step.refl F rfl)
theorem Fi:uO B c k (.Continue pos):=λenv fl up fr σ f s₁ hF ev A ρ s Q E rm a F q=>by
 dsimp only [CA] at ev;obtain ⟨rfl,rfl⟩:=aK ev;exact wpAny_Continue (q ρ s _ Step.refl F rfl)
theorem P4:lL B c k []:=λenv fl up fr σ f s₁ hF ev A ρ s Q E rm a F q=>by
 dsimp only [jG] at ev;obtain ⟨rfl,rfl⟩:=aK ev;exact t7 (q ρ s _ Step.refl F rfl)
theorem MJ{st:fV}{r:List fV}(h:uO B c k st)(hr:lL B c k r):lL B c k (st::r):=λenv fl up fr σ f s₁ hF ev A ρ s Q E rm a F q=>by
 refine bQ ev λf' s_2 h1 e1=>?_;refine mU (h env fl up fr σ f' s_2 hF h1 A ρ s _ E rm a F ?_);induction f' using Fl.casesOn with
 |next=>exact λρ_1 t_1 tZ gk F_1 hf=>by subst hf;exact hr env fl up s_2.fr s_2.os f s₁ hF e1 A ρ_1 t_1 Q E rm a F_1 (q.after gk)
 |brk=>obtain ⟨rfl,rfl⟩:=aK e1;exact λρ_1 t_1 tZ gk F_1 hf=>by subst hf;exact q ρ_1 t_1 _ gk F_1 rfl
 |cont=>obtain ⟨rfl,rfl⟩:=aK e1;exact λρ_1 t_1 tZ gk F_1 hf=>by subst hf;exact q ρ_1 t_1 _ gk F_1 rfl
 |ret v=>obtain ⟨rfl,rfl⟩:=aK e1;exact λρ_1 t_1 tZ gk F_1 hf=>by refine aR hf λx q'2 hx=>?_;obtain rfl:=q'2;exact q ρ_1 t_1 _ gk F_1 ⟨x,rfl,hx⟩
 |exc i=>obtain ⟨rfl,rfl⟩:=aK e1;exact q
theorem V1{t:au}{b o:List fV}(ht:o8 B c k t)(hb:lL B c k b)(ho:lL B c k o):uO B c k (.If t b o pos):=λenv fl up fr σ f s₁ hF ev A ρ s Q E rm a F q=>by
 refine bQ ev λw s_2 h1 e1=>?_;refine wpAny_If (ht env fl up fr σ w s_2 h1 A ρ s _ E rm a F λρ_1 t_1 st F_1=>?_);induction w using cF with
 |true=>exact hb env fl _ s_2.fr s_2.os f s₁ hF e1 A ρ_1 t_1 Q E rm a F_1 (q.after st)
 |false=>exact ho env fl _ s_2.fr s_2.os f s₁ hF e1 A ρ_1 t_1 Q E rm a F_1 (q.after st)
theorem MK{t:au}{b o:List fV}(ht:o8 B c k t)(hb:lL B c k b)(ho:lL B c k o):uO B c k (.While t b o pos):=λenv fl up fr σ f s₁ hF ev A ρ s Q E rm a F q=>by
 dsimp only [CA] at ev;refine wpAny_While (codeAny_whileLoop (λn s'=>∃ρ' ej σ',Step ρ (wr up env) s ρ' s'/\Fits B ρ' σ' ej up env fl s'/\g9 (tU c t up.sc up.vals (cU c t up.sc up.vals)) (jG c up.sc up.vals b) (jG c up.sc up.vals o) n up.fz ⟨ej,σ'⟩=af (f,s₁)) ?_ c.fuel ⟨ρ,fr,σ,Step.refl,F,ev⟩);rintro n s' ⟨ρ',ej,σ',st,F',e'⟩;induction n using lE with
 |zero=>exact nn e'
 |succ n=>
  refine bQ e' λw s_2 h1 e1=>?_;refine ht env fl up ej σ' w s_2 h1 A ρ' s' _ _ rm a F' λρ_1 t_1 gk F_1=>?_;induction w using cF with
  |true=>
   rw [if_pos rfl] at e1 ⊢;refine bQ e1 λf' s_3 h2 e2=>?_;have wu:∀j,f'≠ .exc j:=λj hj=>by subst hj;exact nn e2
   refine hb env fl up s_2.fr s_2.os f' s_3 hF h2 A ρ_1 t_1 _ _ rm a F_1 ?_;have cont:∀ρ_2 t_2 tZ,Step ρ_1 (wr up env) t_1 ρ_2 t_2->Fits B ρ_2 s_3.os s_3.fr up env fl t_2->VV ρ_2 f' tZ->(match tZ with
      | .next| .cont=>∃m,m<n+1/\∃ρ' ej σ',Step ρ (wr up env) s ρ' t_2/\Fits B ρ' σ' ej up env fl t_2/\g9 (tU c t up.sc up.vals (cU c t up.sc up.vals)) (jG c up.sc up.vals b) (jG c up.sc up.vals o) m up.fz ⟨ej,σ'⟩=af (f,s₁)
      | .brk=>Q .next t_2
      | .ret v=>Q (.ret v) t_2:Prop):=λρ_2 t_2 tZ kB F_2 hfl=>by
    have total:=(st.trans gk).trans kB;induction f' using Fl.casesOn with
    |next=>subst hfl;exact ⟨n,bU n,ρ_2,_,_,total,F_2,e2⟩
    |cont=>subst hfl;exact ⟨n,bU n,ρ_2,_,_,total,F_2,e2⟩
    |brk=>subst hfl;obtain ⟨rfl,rfl⟩:=aK e2;exact q.next total F_2
    |ret v=>refine aR hfl λx q'3 hx=>?_;obtain rfl:=q'3;obtain ⟨rfl,rfl⟩:=aK e2;exact q ρ_2 t_2 _ total F_2 ⟨x,rfl,hx⟩
    |exc j=>exact absurd rfl (wu j)
   induction f' using Fl.casesOn with
   |exc j=>exact absurd rfl (wu j)
   |next=>exact cont
   |brk=>exact cont
   |cont=>exact cont
   |ret v=>exact cont
  |false=>
   rw [if_neg (by decide)] at e1 ⊢;refine bQ e1 λf' s_3 h3 e3=>?_;refine cT (wO e3) λq'4 q'5 wu=>?_;obtain rfl:=q'4;obtain rfl:=q'5;refine ho env fl up s_2.fr s_2.os f' s_3 hF h3 A ρ_1 t_1 _ _ rm a F_1 ?_;have:=(q.after (st.trans gk)).P0 wu;induction f' using Fl.casesOn with
   |exc j=>exact absurd rfl (wu j)
   |next=>exact this
   |brk=>exact this
   |cont=>exact this
   |ret v=>exact this
theorem TJ{t:au}{b o:List fV}(H:yO B c k)(he:dP B c k e)(hb:lL B c k b):uO B c k (.For t e b o pos):=λenv fl up fr σ f s₁ hF ev A ρ s Q E rm a F q=>by
 refine Ta ev λhns JI=>?_;clear ev;rw [ez,not_or] at hns;refine nE JI λx hw Rt=>?_;clear JI;refine lG (wL hw) λp ht=>?_;have ho:o= []:=by
  induction o using aC with
  |nil=>rfl
  |cons _ _=>exact absurd rfl hns.2
 subst ht;subst ho;refine bQ Rt λw s_2 h1 e1=>?_;refine bQ e1 λsrc s_3 h2 e2=>?_;refine wpAny_For (he env fl up fr σ w s_2 h1 A ρ s _ E rm a F λρ_1 t_1 y st F_1 hy=>?_) (uM (by simpa using hns.1));have Rr:s_3=⟨s_2.fr,s_2.os⟩:=(qA (A:=A) (E:=E) (Q:=λ_ _=>True) F_1 H.n9 h2 hy λ_ _ _ _ _=>trivial).1;have BG:c.hd=ao:=(qA (A:=A) (E:=E) (Q:=λ_ _=>True) F_1 H.n9 h2 hy λ_ _ _ _ _=>trivial).2.1;have hA:A.handled=ae:=rm.hd (H.hd BG);subst Rr;refine (qA (A:=A) (E:=E) F_1 H.n9 h2 hy λo St fp It O8=>?_).2.2;have wu:∀j,f≠ .exc j:=by
  have:∀(l:List V) (z:List Nat) (s_0 s₁:eP) (f:Fl),fQ (λv=>do setC up.sc x v;jG c up.sc up.vals b) l z s_0=af (f,s₁)->∀j,f≠ .exc j:=by
   intro l;induction l with
   |nil=>intro z s_0 s₁ f h j hj;subst hj;cases (aK h).1
   |cons v r ih=>
    intro z s_0 s₁ f h;refine bQ h λf' s_4 h3 e3=>?_;induction f' using Fl.casesOn with
    |next=>exact ih _ _ _ _ e3
    |cont=>exact ih _ _ _ _ e3
    |brk=>obtain ⟨rfl,_⟩:=aK e3;exact λj hj=>by injection hj
    |ret v=>obtain ⟨rfl,_⟩:=aK e3;exact λj hj=>by injection hj
    |exc j=>exact nn e3
  exact this _ _ _ _ _ e2
 refine Hu hA F_1 rfl It O8 (λi h y s' Q E' st hs q=>?_) e2 (λv y fr σ f s₁ ρ s Q E' ev hne F hv q'=>?_) ((q.after st).P0 wu)
 ·subst hs;refine aR (It.cls i _ st) λo ho hp=>?_;exact owned_go ho hp q
 ·refine bQ ev λu s_4 h3 e3=>?_;refine jR (o9 (k:=k) (up:=Up.gG up src.fz) h3 rm a F hv λρ_2 t_2 kB F_2=>?_);refine hb env fl (Up.gG up src.fz) s_4.fr s_4.os f s₁ ⟨hF.fr,hF.hd⟩ e3 A ρ_2 t_2 Q E' rm a F_2 ?_;have:=λρ' s' tZ st' F' h=>q' ρ' s' tZ (kB.trans st') F' h;induction f using Fl.casesOn with
  |exc j=>exact absurd rfl (hne j)
  |next=>exact this
  |brk=>exact this
  |cont=>exact this
  |ret v=>exact this
end
section
variable{M:Model}
theorem DE(f:Str × α->List (Str × α)->Sem (ForInStep (List (Str × α))))(hf:∀n d sl,f (n,d) sl=if (sl.lookup n).isNone=ao then aA (.yield (sl++ [(n,d)])) else aA (.yield sl)):
  ∀(l:List (Str × α)) (sl:List (Str × α)),(forIn l sl f:Sem (List (Str × α)))=aA (AF sl l)
 | [],sl=>rfl
 |(n,d)::r,sl=>by
  rw [lj,hf];dsimp only [AF];by_cases h:(sl.lookup n).isNone=ao
  ·rw [if_pos h,if_pos h,pure_bind];exact DE f hf r _
  ·rw [if_neg h,if_neg h,pure_bind];exact DE f hf r _
theorem Fj{fd:kR}{pO:List ay}{Q:List (Str × ay)->aM->Prop}(h1:fd.params.posonlyargs= [])(h2:fd.params.kwonlyargs= [])(h3:fd.params.kwarg=ae)
  (hd:∀(Q:Option (Array ay)->aM->Prop),Q (af pO.toArray) s->(pO= []->Q ae s)->wpAny M A (zh fd.defaults) Q E s) (hok:yK (fd.params.args.map (·.arg)) pO vals fd.params.vararg.isSome=ao)
  (q:match fd.params.vararg with
   |none=>Q (xA (fd.params.args.map (·.arg)) pO vals) s
   |some a=>wpAny M A (newTuple (vals.drop fd.params.args.length)) (λt s'=>Q (xA (fd.params.args.map (·.arg)) pO vals++ [(a.arg,t)]) s') E s):wpAny M A (bindArgs fd ⟨vals,[]⟩) Q E s:=by
 dsimp only [yK] at hok;rw [aS] at hok;obtain ⟨k1,k2⟩:=hok;dsimp only [bindArgs];simp only [h1,h2,h3,yB,ey,vk,pure_bind,bB];generalize hps:fd.params.args.map (·.arg)=ps at*;have hlen:fd.params.args.length=ps.length:=by rw [←hps,aH]
 rw [hlen] at q;have n1:¬((decide (vals.length>ps.length)&&fd.params.vararg.isNone)=ao):=by
  intro h;rw [aS] at h;obtain ⟨a1,a2⟩:=h;induction hv:fd.params.vararg using aw with
  |none=>rw [hv] at k1;simp at k1 a1;exact (aW _ (ag a1 k1)).elim
  |some a=>rw [hv] at a2;injection a2
 have n2:¬((!(qQ (λn=>(qR n (ps.zip vals)).isNone) (List.take (ps.length-(sC (pO.length-ps.length) pO).length) ps)).isEmpty)=ao):=by
  intro h;have:qQ (λn=>(qR n (ps.zip vals)).isNone) (List.take (ps.length-(sC (pO.length-ps.length) pO).length) ps)= []:=by
   refine (jf).mpr ?_;intro n hn hz;have:=bK.mp k2 n hn;rw [hU.mp hz] at this;injection this
  rw [this] at h;injection h
 have fin:wpAny M A (forIn ((sC (ps.length-(sC (pO.length-ps.length) pO).length) ps).zip (sC (pO.length-ps.length) pO)) (ps.zip vals) (λx __s=>if (qR x.fst __s).isNone=ao then aA (dE (__s++ [(x.fst,x.snd)])) else aA (dE __s))>>=λ__s=>
   (match fd.params.vararg with
    |some a=>do
     let t←newTuple (sC ps.length vals)
     pure (BN (λn=>iE (λx=>(n,x)) (qR n __s)) ps++ [(a.arg,t)])
    |x=>aA (BN (λn=>iE (λx=>(n,x)) (qR n __s)) ps):Sem (List (Str × ay)))) Q E s:=by
  rw [DE _ (λn d sl=>rfl),pure_bind];induction hv:fd.params.vararg using aw with
  |none=>rw [hv] at q;exact bG q
  |some a=>rw [hv] at q;exact aB (fW q (λt s' h=>bG h) λ_ _ h=>h)
 refine aB (hd _ ?_ λZs=>?_)
 ·refine (if_neg n1)▸ ?_;simp only [zi,List.toList_toArray];refine (if_neg n2)▸ ?_;exact fin
 ·subst Zs;refine (if_neg n1)▸ ?_;simp only [zj,Array.toList_empty];refine (if_neg n2)▸ ?_;exact fin
end
theorem cW.zip{ps:List Str}(h:bM ρ as vals):cW ρ (ps.zip as) (ps.zip vals):=
 h.by (P:=λas vals=>∀ps:List Str,cW ρ (ps.zip as) (ps.zip vals)) (λps=>by rw [xe,xe];trivial) (λa as v vals r _ ih ps=>by
  induction ps using aC with
  |nil=>trivial
  |cons p ps=>exact ⟨⟨rfl,r⟩,ih ps⟩) ps
theorem cW.lookup(h:cW ρ es kvs):n8 ρ (es.lookup x) (kvs.lookup x):=
 h.by (P:=λes kvs=>n8 ρ (es.lookup x) (kvs.lookup x)) rfl λa v es w kvs h hs ih=>by
  rw [cz,cz];induction hx:x==a using cF with
  |true=>exact ⟨w,rfl,h⟩
  |false=>exact ih
theorem cW.V2{y:ay}(hv:cA ρ v y)(h:cW ρ es kvs):cW ρ (es++ [(x,v)]) (kvs++ [(x,y)]):=cW.snoc hv h
theorem cW.AF{l:List (Str × V)}{l':List (Str × ay)}{sl:List (Str × V)}{OI:List (Str × ay)}(h:cW ρ sl OI)(hl:cW ρ l l'):cW ρ (AF sl l) (AF OI l'):=
 hl.by (P:=λl l'=>∀sl OI,cW ρ sl OI->cW ρ (Internal.AF sl l) (Internal.AF OI l')) (λ_ _ h=>h) (λa v l w l' hv hs ih sl OI h=>by
  dsimp only [Internal.AF];have:(sl.lookup a).isNone=(OI.lookup a).isNone:=by
   have:=(h.lookup (x:=a)).uI;cases q:sl.lookup a<;>cases q':OI.lookup a<;>rw [q,q'] at this<;>first|rfl|injection this
  rw [this];induction hz:(OI.lookup a).isNone using cF with
  |true=>exact ih _ _ (h.V2 hv)
  |false=>exact ih _ _ h) sl OI h
theorem CO{ps:List Str}{pO:List V}{Cn:List ay}(hd:bM ρ pO Cn)(ha:bM ρ as vals):cW ρ (xA ps pO as) (xA ps Cn vals):=by
 have h1:bM ρ (sU ps pO) (sU ps Cn):=by
  dsimp only [sU];rw [hd.length];exact hd.drop _
 have h2:cW ρ (uG ps pO as) (uG ps Cn vals):=by
  dsimp only [uG];rw [h1.length];exact cW.AF (cW.zip ha) (cW.zip h1)
 dsimp only [xA];have main:∀l:List Str,cW ρ (l.filterMap λn=>((uG ps pO as).lookup n).map λv=>(n,v)) (l.filterMap λn=>((uG ps Cn vals).lookup n).map λv=>(n,v)):=by
  intro l;induction l with
  |nil=>trivial
  |cons n r ih=>
   have:=h2.lookup (x:=n);rw [oq,oq];induction q:(uG ps pO as).lookup n using aw with
   |none=>rw [q] at this;rw [show (uG ps Cn vals).lookup n=ae from this];exact ih
   |some v=>
    rw [q] at this;refine aR this λy hy hv=>?_;refine hy▸ ?_;exact ⟨⟨rfl,hv⟩,ih⟩
 exact main ps
theorem Kx{ps:List Str}{pO:List V}{Cn:List ay}{more:Bool}(hd:bM ρ pO Cn)(ha:bM ρ as vals):yK ps pO as more=yK ps Cn vals more:=by
 have h1:(sU ps pO).length=(sU ps Cn).length:=by dsimp only [sU];simp [hd.length]
 have h2:∀n,((ps.zip as).lookup n).isSome=((ps.zip vals).lookup n).isSome:=λn=>((cW.zip ha).lookup (x:=n)).uI;dsimp only [yK];rw [h1,ha.length];congr 2
 funext n
 exact h2 n
theorem Hz{kd:Str->Option iq}{bs:List (Str × V)}(hr:cW ρ bs bv)(hx:kd x=af .local)(hk:∀p∈bs,kd p.1=af .local∨kd p.1=af .cell)(h:mv ρ (getF fr x) (m x)):mv ρ (getF (putAll fr bs) x) (PySem.bindL kd bv m x):=by
 clear hk;refine hr.by (P:=λbs bv=>∀fr m,mv ρ (getF fr x) (m x)->mv ρ (getF (putAll fr bs) x) (PySem.bindL kd bv m x)) ?_ (λa v bs w bv hv hs ih fr m h=>?_) fr m h
 ·intro fr m h;exact h
 ·dsimp only [putAll,PySem.bindL];by_cases ha:kd a=af .local
  ·refine (if_pos ha)▸ ?_;refine ih _ _ ?_;rw [b9];by_cases hxa:x=a
   ·subst hxa;simp only [if_true];exact ⟨w,rfl,hv⟩
   ·simp only [hxa,if_false];exact h
  ·refine (if_neg ha)▸ ?_;refine ih _ _ ?_;rw [b9,if_neg (by rintro rfl;exact ha hx)];exact h
theorem Fm{kd:Str->Option iq}{bs:List (Str × V)}(hr:cW ρ bs bv)(hx:kd x=af .cell)(hk:∀p∈bs,kd p.1=af .local∨kd p.1=af .cell)(h:mv ρ (getF fr x) (m x)):mv ρ (getF (putAll fr bs) x) (PySem.bindC kd bv m x):=by
 clear hk;refine hr.by (P:=λbs bv=>∀fr m,mv ρ (getF fr x) (m x)->mv ρ (getF (putAll fr bs) x) (PySem.bindC kd bv m x)) ?_ (λa v bs w bv hv hs ih fr m h=>?_) fr m h
 ·intro fr m h;exact h
 ·dsimp only [putAll,PySem.bindC];by_cases ha:kd a=af .local
  ·refine (if_pos ha)▸ ?_;refine ih _ _ ?_;rw [b9,if_neg (by rintro rfl;rw [hx] at ha;contradiction)];exact h
  ·refine (if_neg ha)▸ ?_;refine ih _ _ ?_;rw [b9];by_cases hxa:x=a
   ·subst hxa;simp only [if_true];exact ⟨w,rfl,hv⟩
   ·simp only [hxa,if_false];exact h
section
variable{M:Model}{base:pQ}{outer:List Env}{L e:bj}{oe:Obj}{vs:Array ay}
structure jr(S kD:List bj)(h h':pQ):Prop where
 keep:∀b o,b∉S->b∉kD->h.get? b=af o->h'.get? b=af o
 wM:∀b o,b∉S->b∈kD->h.get? b=af o->∃o',h'.get? b=af o'/\o'.data=o.data
theorem CP{head:ay}{hadNext:Bool}{Q:Unit->aM->Prop}(hfr:A.frames=af (env::outer))(hl:s.heap.FunFrames base (env::outer))(hf:env.frame=af L)(he:s.heap.get? e=af oe)(hd:oe.data= .fields vs)(hsz:1<vs.size)
  (h:∀h' T oT ts,jr [e] ((env::outer).filterMap (·.frame)) s.heap h'->s.heap.get? T=ae->T≠e->h'.get? e=af (oe.mapFields (·.setIfInBounds 1 (.ref T)))->h'.get? T=af oT->oT.data= .fields ts->3<ts.size->Q () {s with heap:=h'}):
  wpAny M A (do let a←frameOf env;let pl←entryPlaceOf L hadNext;let b←v3 head a .none (xc L) .none pl;setField (.ref e) 1 b) Q E s:=by
 have Zt:e∉(env::outer).filterMap (·.frame):=λhm=>by
  refine dZ (hl.mem hm) λ_ r'1=>?_;refine aR r'1 λo ho hnf=>?_;rw [he] at ho;injection ho with ho;subst ho;exact hnf vs hd
 refine aB (wpAny_frameOf_fun hfr hl hf λh_1 hs_1=>?_);refine aB (wpAny_entryPlaceOf λpl hpl=>?_);dsimp only [v3,newFields];refine aB (jS ?_ (hpl.sizeOk5 _ _ _ _ _));have Gp:h_1.get? e=af oe:=(hs_1.2.1 e Zt).trans he;generalize hoT:({cls:=.type "traceback",dict:=ae,data:=.fields ([head,.ref L,.none,xc L,.none]++(if pl.isEmpty then gW 6 cq else pl)).toArray}:Obj)=oT;have zL:=aP (h:=h_1) oT Gp;refine ma zL hd hsz ?_;have Lx:h_1.objs.size≠e:=eM (dj Gp);have Xe:=gY hd (·.setIfInBounds 1 (cB h_1.objs.size));have ye:=fO (gN (·.setIfInBounds 1 (cB h_1.objs.size))) zL (mD Xe);have hTd:oT.data= .fields ([head,.ref L,.none,xc L,.none]++(if pl.isEmpty then gW 6 cq else pl)).toArray:=by exact congrArg _ (hoT).symm
 have C6:=(jj (h_1.push oT) (gN (·.setIfInBounds 1 (cB h_1.objs.size))) (ym Lx)).trans (dc h_1 (by refine (hoT).symm▸ ?_;rfl));have keep:∀b o,b≠e->h_1.get? b=af o->((h_1.push oT).update e (gN (·.setIfInBounds 1 (cB h_1.objs.size)))).get? b=af o:=λb o hbe hb=>by
  refine (jj _ _ (ym hbe)).trans ?_;exact aP _ hb
 refine h _ h_1.objs.size oT _ ⟨λb o hb hf EC=>keep b o (λq=>hb (by simp [q])) ((hs_1.2.1 b hf).trans EC),λb o hb hf EC=>?_⟩ ?_ Lx ye C6 hTd (by exact iK rfl)
 ·obtain ⟨sl,hs⟩:=hs_1.2.2 b o EC;exact ⟨_,keep b _ (λq=>hb (by simp [q])) hs,rfl⟩
 ·induction q:s.heap.get? h_1.objs.size using aw with
  |none=>rfl
  |some o=>exact absurd (dj q) (by rw [hs_1.1];exact aW _)
theorem A0{Q:Unit->aM->Prop}(hfr:A.frames=af (env::outer))(hl:s.heap.FunFrames base (env::outer))(hf:env.frame=af L)(he:s.heap.get? e=af oe)(hd:oe.data= .fields vs)(h1:vs[1]? =af .none)
  (h:∀h' T oT ts,jr [e] ((env::outer).filterMap (·.frame)) s.heap h'->s.heap.get? T=ae->T≠e->h'.get? e=af (oe.mapFields (·.setIfInBounds 1 (.ref T)))->h'.get? T=af oT->oT.data= .fields ts->3<ts.size->Q () {s with heap:=h'}):
  wpAny M A (sz (.ref e) env) Q E s:=by
 dsimp only [sz];simp only [hf];refine aB (kb he hd h1 ?_);refine (if_neg (show¬((cq != cq)=ao) from by simp))▸ ?_;exact CP hfr hl hf he hd (dM.mp h1).1 h
theorem HA{Q:Unit->aM->Prop}{T_0:bj}{o_0:Obj}{JL:Array ay}(hfr:A.frames=af (env::outer))(hl:s.heap.FunFrames base (env::outer))(hf:env.frame=af L)(he:s.heap.get? e=af oe)(hd:oe.data= .fields vs)(h1:vs[1]? =af (.ref T_0))
  (Lx:T_0≠e) (hT:s.heap.get? T_0=af o_0) (Ln:o_0.data= .fields JL) (h3:JL[3]? =af .none)
  (h:∀h' T oT ts,jr [e,T_0] ((env::outer).filterMap (·.frame)) s.heap h'->s.heap.get? T=ae->T≠e->h'.get? e=af (oe.mapFields (·.setIfInBounds 1 (.ref T)))->h'.get? T=af oT->oT.data= .fields ts->3<ts.size->Q () {s with heap:=h'}):
  wpAny M A (sz (.ref e) env) Q E s:=by
 dsimp only [sz];simp only [hf];refine aB (kb he hd h1 ?_);refine (if_pos (show (cB T_0 != cq)=ao from by simp))▸ ?_;refine aB (kb hT Ln h3 ?_);refine (if_neg (show¬((cq==xc L)=ao) from by simp [xc]))▸ ?_;refine aB (ma hT Ln (dM.mp h3).1 ?_);have other:∀b,b≠T_0->(s.heap.update T_0 (gN (·.setIfInBounds 3 cq))).get? b=s.heap.get? b:=λb hb=>jj _ _ (ym hb);have OJ:∀b o,s.heap.get? b=af o->(∀vs,o.data≠ .fields vs)->b≠T_0:=λb o hb hnf q=>by
  rw [q,hT] at hb;injection hb with hb;subst hb;exact hnf JL Ln
 refine CP (hadNext:=true) hfr (hl.of_keeps λb o hb hnf=>⟨o,(other b (OJ b o hb hnf)).trans hb,rfl⟩) hf ((other e (ym Lx)).trans he) hd (dM.mp h1).1 λh' T oT ts hN Ss Zu he' Yt Ru hz=>?_;refine h h' T oT ts ⟨λb o hb hf' EC=>?_,λb o hb hf' EC=>?_⟩ ?_ Zu he' Yt Ru hz
 ·exact hN.keep b o (λq=>hb (by simp at q;simp [q])) hf' ((other b (λq=>hb (by simp [q]))).trans EC)
 ·exact hN.wM b o (λq=>hb (by simp at q;simp [q])) hf' ((other b (λq=>hb (by simp [q]))).trans EC)
 ·induction q:s.heap.get? T using aw with
  |none=>rfl
  |some o=>
   by_cases hb:T=T_0
   ·subst hb;have:=fO (gN (·.setIfInBounds 3 cq)) hT (mD (gY Ln _));rw [show (s.heap.update T (gN (·.setIfInBounds 3 cq))).get? T=ae from Ss] at this;exact nn this
   ·have:=(other T hb).trans q;rw [show (s.heap.update T_0 (gN (·.setIfInBounds 3 cq))).get? T=ae from Ss] at this;exact nn this
theorem pd{Q:Unit->aM->Prop}{T:bj}{oT:Obj}{ts:Array ay}(he:s.heap.get? e=af oe)(hd:oe.data= .fields vs)(h1:vs[1]? =af (.ref T))(hT:s.heap.get? T=af oT)(Ln:oT.data= .fields ts)(hz:3<ts.size)
  (h:∀h' Zv ts',jr [T] [] s.heap h'->h'.get? T=af Zv->Zv.data= .fields ts'->ts'[3]? =af .none->ts'.size=ts.size->Q () {s with heap:=h'}):wpAny M A (setFlight (.ref e) ae) Q E s:=by
 dsimp only [setFlight];refine aB (kb he hd h1 ?_);refine (if_pos (show (cB T != cq)=ao from by simp))▸ ?_;have Ru:=gY Ln (·.setIfInBounds 3 ((ae:Option bj).elim cq λf=>xc f));refine ma hT Ln hz (h _ _ _ ⟨λb o hb _ EC=>(jj _ _ (λq=>hb (by simp [q]))).trans EC,λb o _ hf _=>nomatch hf⟩ (fO _ hT (mD Ru)) Ru (by simp [hz]) (by simp))
end
section
variable{s_0:aM}{S:List bj}
theorem Step.xN(x:Step ρ (wr up env) s_0 ρ' s)(hS:∀a∈S,s_0.heap.get? a=ae)(hN:jr S up.kD s.heap h'):Step ρ (wr up env) s_0 ρ' {s with heap:=h'}:=by
 have ne:∀b o,s_0.heap.get? b=af o->b∉S:=λb o h hb=>by rw [hS b hb] at h;exact nn h
 refine ⟨x.ext,λb o h=>?_,λb o h h1 h2=>?_,λb hb hl o h=>?_,x.gens,x.os,x.drawn⟩
 ·obtain ⟨o',h'⟩:=x.live b o h;by_cases hf:b∈up.kD
  ·refine aR (hN.wM b o' (ne b o h) hf h') λO6 h'' _=>?_;exact ⟨O6,h''⟩
  ·exact ⟨o',hN.keep b o' (ne b o h) hf h'⟩
 ·exact hN.keep b o (ne b o h) (λhf=>h2 (cH _ hf)) (x.keep b o h h1 h2)
 ·refine aR (x.wM b hb hl o h) λo' h' d'=>?_;refine aR (hN.wM b o' (ne b o h) hb h') λO6 h'' d''=>?_;exact ⟨O6,h'',d''.trans d'⟩
theorem Fits.xN(F:Fits B ρ σ fr up env fl s)(hN:jr S up.kD s.heap h')(hO:∀a∈S,a∉own env/\B.h₀.get? a=ae/\a∉up.kD)(hρ:∀(i:Nat) (o:O) (a:bj),σ[i]? =af o->ρ[i]? =af a->a∈S->∃r,h'.get? a=af r/\ou B.pr B.w ρ o r):Fits B ρ σ fr up env fl {s with heap:=h'}:=by
 have Xf:∀a,a∈own env->a∉S:=λa ha hs=>(hO a hs).1 ha;have base:∀b o,B.h₀.get? b=af o->b∉S/\b∉up.kD:=λb o h=>⟨(λhs=>by rw [(hO b hs).2.1] at h;exact nn h),(λhf=>by rw [(F.Dr b hf).1] at h;exact nn h)⟩;have cell:∀(c:bj) (o:Obj),c∈env.cells.map (·.2)->s.heap.get? c=af o->h'.get? c=af o:=λc o hc h=>hN.keep c o (Xf c (i8 _ hc)) (λhf=>(F.Dr c hf).2.2.1 hc) h;refine ⟨⟨F.rep.len,F.rep.nd,F.rep.new,λi o ho=>?_,λb o hb=>hN.keep b o (base b o hb).1 (base b o hb).2 (F.rep.keep b o hb)⟩,⟨?_,λx hx=>?_,λx hx=>?_,F.mw.OZ⟩,F.ok,F.rO,F.oY,λa ha=>?_,F.mG,F.oZ,F.gens,F.L8,λL hL=>?_⟩
 ·refine ck (F.rep.obj i o ho) λa r h1 h2 h3=>?_;by_cases hs:a∈S
  ·refine aR (hρ i o a ho h1 hs) λr' g1 g2=>?_;exact ⟨a,r',h1,g1,g2⟩
  ·exact ⟨a,r,h1,hN.keep a r hs (λhf=>(F.Dr a hf).2.1 (bN h1)) h2,h3⟩
 ·refine aR F.mw.loc λm q'2 hm=>?_;obtain ⟨o,es,n,h1,h2,h3⟩:=q'2;by_cases hf:env.locals∈up.kD
  ·refine aR (hN.wM _ o (Xf _ (fg ..)) hf h1) λo' Ik d'=>?_;exact ⟨m,⟨o',es,n,Ik,d'.trans h2,h3⟩,hm⟩
  ·exact ⟨m,⟨o,es,n,hN.keep _ o (Xf _ (fg ..)) hf h1,h2,h3⟩,hm⟩
 ·refine dZ (F.mw.G9 x hx) λk r'3=>?_;refine b8 r'3 λc o v h1 h2 h3 h4=>?_;exact ⟨k,c,o,v,h1,cell c o (mem_lookup h1) h2,h3,h4⟩
 ·refine dZ (F.mw.ES x hx) λk r'4=>?_;refine b8 r'4 λc o v h1 h2 h3 h4=>?_;exact ⟨k,c,o,v,h1,cell c o (mem_lookup h1) h2,h3,h4⟩
 ·obtain ⟨o,h⟩:=F.jK a ha;by_cases hf:a∈up.kD
  ·refine aR (hN.wM _ o (Xf _ ha) hf h) λo' Ik _=>?_;exact ⟨o',Ik⟩
  ·exact ⟨o,hN.keep _ o (Xf _ ha) hf h⟩
 ·refine iz (F.Dr L hL) λh3 h4 h5 r'5=>?_;refine gb r'5 λo es n h6 h7=>?_;refine aR (hN.wM _ o (λhs=>(hO L hs).2.2 hL) hL h6) λo' Ik d'=>?_;exact ⟨h3,h4,h5,o',es,n,Ik,d'.trans h7⟩
theorem Fits.yS(F:Fits B ρ σ fr up env fl s):s.heap.FunFrames B.h₀ fl:=by
 have:∀l:List Env,(∀e∈l,e∈fl)->s.heap.FunFrames B.h₀ l:=by
  intro l;induction l with
  |nil=>intro _;trivial
  |cons e r ih=>
   intro h;refine dZ (F.kD e (h e (fg ..))) λh1 r'6=>?_;refine LA r'6 λL h2 h3 h4 h5 r'7=>?_;refine gb r'7 λo es n h6 h7=>?_;exact ⟨h1,⟨L,o,h2,h3,h6,λvs q=>by rw [h7] at q;injection q⟩,ih λx hx=>h x (i8 _ hx)⟩
 exact this fl λ_ h=>h
theorem Fits.ML(F:Fits B ρ σ fr up env fl s):∀b,b∈fl.filterMap (·.frame)->b∈up.kD:=λb hb=>by
 refine aR (List.mem_filterMap.mp hb) λe he h=>?_;refine dZ (F.L8 e he) λ_ r'8=>?_;refine aR r'8 λL h2 h3=>?_;rw [h3] at h;obtain ⟨⟩:=h;exact h2
theorem jr.mono{S S' kD frs':List bj}(x:jr S kD h h')(hS:∀a∈S,a∈S')(hf:∀a∈kD,a∈frs'):jr S' frs' h h':=
 ⟨λb o h1 h2 e=>x.keep b o (λq=>h1 (hS b q)) (λq=>h2 (hf b q)) e,λb o h1 h2 e=>by
  by_cases hb:b∈kD
  ·exact x.wM b o (λq=>h1 (hS b q)) hb e
  ·exact ⟨o,x.keep b o (λq=>h1 (hS b q)) hb e,rfl⟩⟩
theorem jr.trans{S kD:List bj}{h_1 h_2 h_3:pQ}(x:jr S kD h_1 h_2)(y:jr S kD h_2 h_3):jr S kD h_1 h_3:=
 ⟨λb o h1 h2 e=>y.keep b o h1 h2 (x.keep b o h1 h2 e),λb o h1 h2 e=>let ⟨o',e',d'⟩:=x.wM b o h1 h2 e;let ⟨O6,Xc,d''⟩:=y.wM b o' h1 h2 e';⟨O6,Xc,d''.trans d'⟩⟩
theorem jr.refl{S kD:List bj}:jr S kD h h:=⟨λ_ _ _ _ e=>e,λ_ o _ _ e=>⟨o,e,rfl⟩⟩
end
theorem Fn:∀{xs:List ay}{ds:List V},xs.mapM ki=af ds->bM [] ds xs
 | [],ds,h=>by simp at h;subst h;trivial
 |x::xs,ds,h=>by
  rw [List.mapM_cons] at h;induction hx:ki x using aw with
  |none=>rw [hx] at h;exact nn h
  |some v=>
   rw [hx] at h;induction hxs:xs.mapM ki using aw with
   |none=>rw [hxs] at h;exact nn h
   |some vs=>
    rw [hxs] at h;(injection h with h;subst h);exact ⟨.ki hx,Fn hxs⟩
theorem mY:∀{names:List (Str × iq)}{n:Nat}{acc:List (Str × bj)}{x:Str},((x,Cs)∈names∨∃c,(x,c)∈acc)->∃c,(x,c)∈gC n names acc
 | [],n,acc,x,h=>by
  rcases h with h|h
  ·cases h
  ·exact h
 |(y,k)::r,n,acc,x,h=>by
  dsimp only [gC];split
  ·rename_i hk
   refine mY ?_;rcases h with h|⟨c,h⟩
   ·rcases jJ h with e|h
    ·obtain ⟨⟩:=e;exact .inr ⟨n,fg ..⟩
    ·exact .inl h
   ·exact .inr ⟨c,i8 _ h⟩
  ·rename_i hk
   refine mY ?_;rcases h with h|⟨c,h⟩
   ·rcases jJ h with e|h
    ·obtain ⟨⟩:=e;exact absurd rfl hk
    ·exact .inl h
   ·exact .inr ⟨c,h⟩
theorem pe:∀{l:List (Str × β)}{x:Str}{c:β},(x,c)∈l->∃c',l.lookup x=af c'
 |(y,d)::r,x,c,h=>by
  rw [cz];induction hx:x==y using cF with
  |true=>exact ⟨d,rfl⟩
  |false=>
   rcases jJ h with e|h
   ·obtain ⟨⟩:=e;simp at hx
   ·exact pe h
noncomputable def V3(up:Up):Wr:=⟨up.kD,up.fz,[],up.kD⟩
theorem step_alloc{W:Wr}{r:Obj}:Step ρ W s (ρ++ [s.heap.objs.size]) {s with heap:=s.heap.push r,toks:=tk}:=
 ⟨⟨_,rfl,λa ha=>by simp at ha;subst ha;exact lu⟩,λb o e=>⟨o,aP _ e⟩,λb o e _ _=>aP _ e,λ_ _ _ o e=>⟨o,aP _ e,rfl⟩,rfl,rfl,rfl⟩
theorem Fits.ret{env':Env}{tZ:List Env}{sc:Scope}{vals:eB}{L:bj}{ρ_1:List bj}{s₁:aM}(F:Fits B ρ σ fr up env fl s)(hk:∀b o,s.heap.get? b=af o->s₁.heap.get? b=af o)(hρ:∃m,ρ_1=ρ++m/\∀a∈m,s.heap.objs.size<=a)
  (hown:∀a∈own env',s.heap.objs.size<=a) (hL:s.heap.objs.size<=L) (x:Step ρ_1 (wr ⟨sc,vals,up.fz,L::up.kD⟩ env') s₁ ρ' s') (F':Fits B ρ' σ' ej ⟨sc,vals,up.fz,L::up.kD⟩ env' tZ s') (hg:s₁.gens=s.gens/\s₁.os=s.os/\s₁.drawn=s.drawn):
  Step ρ (wr up env) s ρ' s'/\Fits B ρ' σ' fr up env fl s'/\Step ρ (V3 up) s ρ' s':=by
 have ae:∀a,s.heap.objs.size<=a->s.heap.get? a=ae:=λa ha=>by
  induction q:s.heap.get? a using aw with
  |none=>rfl
  |some o=>exact absurd (dj q) (cC.mpr ha)
 have ne:∀a b o,s.heap.objs.size<=a->s.heap.get? b=af o->b≠a:=λa b o ha h e=>by subst e;rw [ae _ ha] at h;exact nn h
 refine aR hρ λm e hm=>?_;refine aR x.ext λm' e' hm'=>?_;have Xg:∀b o,s.heap.get? b=af o->b∉own env':=λb o hb h=>ne b b o (hown b h) hb rfl;have UT:∀b o,s.heap.get? b=af o->b∉ρ->b∉ρ_1:=λb o hb h1 h2=>by
  rw [e] at h2;rcases aG.mp h2 with h|h
  ·exact h1 h
  ·exact ne _ _ _ (hm b h) hb rfl
 have kept:∀b o,s.heap.get? b=af o->(b∉ρ∨∃i∈up.fz,ρ[i]? =af b)->b∉up.kD->s'.heap.get? b=af o:=λb o hb h1 h3=>by
  refine x.keep b o (hk b o hb) ?_ ?_
  ·rcases h1 with h1|⟨i,hi,h1⟩
   ·exact .inl (UT b o hb h1)
   ·exact .inr ⟨i,hi,Ext.at ⟨m,e⟩ h1⟩
  ·intro h;rcases aG.mp h with h|h
   ·exact Xg b o hb h
   ·rcases jJ h with h|h
    ·exact ne L b o hL hb h
    ·exact h3 h
 have wM:∀b∈up.kD,∀o,s.heap.get? b=af o->∃o',s'.heap.get? b=af o'/\o'.data=o.data:=λb hb o h=>x.wM b (i8 _ hb) (Xg b o h) o (hk b o h);have stC:Step ρ (V3 up) s ρ' s':=by
  refine ⟨⟨m++m',by rw [e',e,aQ],λa ha=>?_⟩,λb o hb=>x.live b o (hk b o hb),λb o hb h1 h2=>kept b o hb h1 h2,λb hb _ o h=>wM b hb o h,x.gens.trans hg.1,x.os.trans hg.2.1,x.drawn.trans hg.2.2⟩;rcases aG.mp ha with ha|ha
  ·exact ae a (hm a ha)
  ·induction q:s.heap.get? a using aw with
   |none=>rfl
   |some o=>have:=hk a o q;rw [hm' a ha] at this;exact nn this
 have st:Step ρ (wr up env) s ρ' s':=⟨stC.ext,stC.live,λb o hb h1 h2=>stC.keep b o hb h1 λh=>h2 (cH _ h),λb hb _ o h=>wM b hb o h,stC.gens,stC.os,stC.drawn⟩;have cell:∀(c:bj) (o:Obj),c∈env.cells.map (·.2)->s.heap.get? c=af o->s'.heap.get? c=af o:=λc o hc h=>kept c o h (.inl (F.rO c (i8 _ hc))) λh=>(F.Dr c h).2.2.1 hc;refine ⟨st,F.step st F'.rep ⟨?_,λy hy=>?_,λy hy=>?_,F.mw.OZ⟩,stC⟩
 ·refine aR F.mw.loc λmm q'1 OF=>?_;obtain ⟨o,es,n,h1,h2,h3⟩:=q'1;by_cases hfr:env.locals∈up.kD
  ·refine aR (wM _ hfr o h1) λo' Xc d''=>?_;exact ⟨mm,⟨o',es,n,Xc,d''.trans h2,h3⟩,λy hy=>⟨(OF y hy).1,(OF y hy).2.ext st.ext'⟩⟩
  ·exact ⟨mm,⟨o,es,n,kept _ _ h1 (.inl (F.rO _ (fg ..))) hfr,h2,h3⟩,λy hy=>⟨(OF y hy).1,(OF y hy).2.ext st.ext'⟩⟩
 ·refine dZ (F.mw.G9 y hy) λk' r'2=>?_;refine b8 r'2 λc o v h1 h2 h3 h4=>?_;exact ⟨k',c,o,v,h1,cell c o (mem_lookup h1) h2,h3,h4.ext st.ext'⟩
 ·refine dZ (F.mw.ES y hy) λk' r'3=>?_;refine b8 r'3 λc o v h1 h2 h3 h4=>?_;exact ⟨k',c,o,v,h1,cell c o (mem_lookup h1) h2,h3,h4.ext st.ext'⟩
theorem Fits.call{sc:Scope}{qual:Str}{fn:Option bj}{code:ay}{bs:List (Str × V)}{env':Env}(F:Fits B ρ σ fr up env fl s)(hkind:sc.kind= .function)(hfree:∀p∈sc.names,p.2≠ .free)(hks:z8 sc bs=ao)(hnd:((gC 0 sc.names []).map (·.1)).Nodup)
  (he:env'=newEnv sc s.heap.objs.size gm (gC (s.heap.objs.size+1) sc.names []) qual fn code ae builtinsNs) (hb:cW ρ bs bv)
  (x:InCallC s env'.locals (PySem.bindL env'.kindOf bv λ_=>ae) env'.cells (PySem.bindC env'.kindOf bv λ_=>ae) s'):
  Fits B ρ σ (putAll [] bs) ⟨sc,[],up.fz,s.heap.objs.size::up.kD⟩ env' (env'::fl) s'/\(∀a∈own env',s.heap.objs.size<=a)/\env'.frame=af env'.locals/\env'.locals=s.heap.objs.size:=by
 have hlo:env'.locals=s.heap.objs.size:=by refine he▸ ?_;rfl
 have OK:env'.frame=af env'.locals:=by refine he▸ ?_;rfl
 have hsc:env'.scope=sc:=by refine he▸ ?_;rfl
 have hkd:∀y,env'.kindOf y=sc.names.lookup y:=λy=>by refine he▸ ?_;rfl
 have hcl:env'.cells=gC (s.heap.objs.size+1) sc.names []:=by refine he▸ ?_;rfl
 have hkb:∀p∈bs,env'.kindOf p.1=af .local∨env'.kindOf p.1=af .cell:=λp hp=>by
  have:=bK.mp hks p hp;rw [ez,decide_eq_true_eq,decide_eq_true_eq] at this;rw [hkd];exact this
 have above:∀a∈own env',s.heap.objs.size<=a:=λa ha=>by
  rcases jJ ha with rfl|ha
  ·exact ar hlo.symm
  ·refine aR (aT.mp ha) λq'4 hp q'5=>?_;obtain ⟨n,c⟩:=q'4;obtain rfl:=q'5;have:=x.above n c hp;rw [hlo] at this;exact bS this
 have keep:=x.toInCall.keep;have fresh:∀a,s.heap.objs.size<=a->Hid B ρ env up a:=λa ha=>F.o6 ha;have nsL:=x.toInCall.ns;refine jo (id nsL) λoL esL nL gL1 gL2 gL3=>?_;refine gc x.done λh_1 tk hs' _=>?_;refine ⟨⟨F.rep.other λb o e _=>keep b o e,⟨⟨_,nsL,λy hy=>⟨?_,?_⟩⟩,λy hy=>⟨?_,?_⟩,λy hy=>?_,λy hy=>?_⟩,⟨?_,?_,?_⟩,λa ha=>(fresh a (above a ha)).ρ,λa ha=>(fresh a (above a ha)).base,λa ha=>?_,λh=>?_,λy z c h1 h2=>?_,?_,λe' he'=>?_,λL' hL'=>?_⟩,above,OK,hlo⟩
 ·rw [hkd];exact hy
 ·exact Hz hb (by rw [hkd];exact hy) hkb trivial
 ·rw [hkd];exact hy
 ·obtain ⟨c,hc⟩:=mY (n:=s.heap.objs.size+1) (acc:=[]) (.inl (mem_of_lookup (show sc.names.lookup y=af .cell from hy)));obtain ⟨c',hc'⟩:=pe hc;rw [←hcl] at hc';refine aR (x.cell y c' hc') λo ho hd=>?_;exact ⟨c',o,_,hc',ho,hd,Fm hb (by rw [hkd];exact hy) hkb trivial⟩
 ·exact absurd rfl (hfree _ (mem_of_lookup (show sc.names.lookup y=af .free from hy)))
 ·rw [hkd];exact hy
 ·refine hsc▸ ?_;exact hkind
 ·refine he▸ ?_;rfl
 ·refine he▸ ?_;rfl
 ·rcases jJ ha with rfl|ha
  ·exact ⟨oL,gL1⟩
  ·refine aR (aT.mp ha) λq'6 hp q'7=>?_;obtain ⟨n,c⟩:=q'6;obtain rfl:=q'7;refine aR (x.cell n c (by rw [hcl] at hp ⊢;exact lookup_of_mem_nodup (cellsFrom_names sc.names 0 (s.heap.objs.size+1) [] [] rfl▸hnd) hp)) λo ho _=>?_;exact ⟨o,ho⟩
 ·refine aR (aT.mp h) λq'8 hp hc=>?_;obtain ⟨n,c⟩:=q'8;simp only at hc;subst hc;exact absurd (x.above n _ hp) (aW _)
 ·exact name_of_addr x.apart (mem_of_lookup h1) (mem_of_lookup h2)
 ·refine hs'▸ ?_;exact F.gens
 ·rcases jJ he' with rfl|he'
  ·refine ⟨by rw [hsc,hkind];decide,s.heap.objs.size,fg ..,by rw [OK,hlo]⟩
  ·refine dZ (F.L8 e' he') λh1 r'9=>?_;refine aR r'9 λL' h2 h3=>?_;exact ⟨h1,L',i8 _ h2,h3⟩
 ·rcases jJ hL' with rfl|hL'
  ·refine ⟨(fresh _ (ax _)).base,(fresh _ (ax _)).ρ,λh=>?_,oL,esL,nL,by refine (hlo).symm▸ ?_;exact gL1,gL2⟩;refine aR (aT.mp h) λq'10 hp hc=>?_;obtain ⟨n,c⟩:=q'10;simp only at hc;have:=x.above n c hp;rw [hlo,hc] at this;exact absurd this (aW _)
  ·refine iz (F.Dr L' hL') λh3 h4 h5 r'11=>?_;refine gb r'11 λo es n h6 h7=>?_;refine ⟨h3,h4,λh=>?_,o,es,n,keep _ _ h6,h7⟩;refine aR (aT.mp h) λq'12 hp hc=>?_;obtain ⟨n,c⟩:=q'12;simp only at hc;have:=x.above n c hp;rw [hlo,hc] at this;exact absurd (aD this (dj h6)) (aW _)
theorem Ky{K:r8}{fd:kR}(h:SY K fd=ao):fd.params.posonlyargs= []/\fd.params.kwonlyargs= []/\fd.params.kwarg=ae/\fd.closure= []/\fd.globals=gm/\fd.builtins=builtinsNs/\fd.scope.kind= .function/\fd.scope.isGenerator=bc/\fd.scope.isCoroutine=bc/\
  codeIn K fd=ao/\((gC 0 fd.scope.names []).map (·.1)).Nodup/\∀p∈fd.scope.names,p.2≠ .free:=by
 unfold SY at h;simp only [aS,decide_eq_true_eq,sb,hU,lY,bK] at h;obtain ⟨⟨⟨⟨⟨⟨⟨⟨⟨⟨⟨h1,h2⟩,h3⟩,h4⟩,h5⟩,h6⟩,h7⟩,h8⟩,h9⟩,Xh⟩,h11⟩,h12⟩:=h;exact ⟨h1,h2,h3,h4,h5,h6,h7,h8,h9,Xh,h11,h12⟩
theorem P5{K:r8}{fd:kR}(X:K.In h)(e:codeIn K fd=ao):h.CodeRec fd.code fd.qualname:=by
 refine eW (iK e) λcc h1 e=>?_;refine eW e λvs h2 e=>?_;have hcc:=IU h1;obtain ⟨t,d,sl,hl⟩:=Tg h2;obtain ⟨tq,hq⟩:=VM e;exact ⟨cc,_,vs,tq,by injection hcc with hcc;injection hcc,X _ _ hl,rfl,hq⟩
theorem MM{K:r8}{M:Model}{v:ay}{pO:List V}(X:K.In s.heap)(e:IM K v=af pO):∃dv,bM [] pO dv/\∀(Q:Option (Array ay)->aM->Prop),Q (af dv.toArray) s->(dv= []->Q ae s)->wpAny M A (zh v) Q E s:=by
 induction v using iN with
 |none=>
  (injection e with e;subst e);exact ⟨[],trivial,λQ _ h=>aB (bG (bG (h rfl)))⟩
 |ref a=>
  refine eW e λl h1 e=>?_;refine sO (VL h1) λt d xs r'=>?_;refine gc r' λn sl hl q'1=>?_;subst q'1;exact ⟨xs.toList,Fn e,λQ h _=>vl (X _ _ hl) rfl (by simpa using h)⟩
 |_=>exact nn e
theorem Kz{x:Str × ay}{bs:List (Str × V)}(h:cW ρ bs bv)(hx:x∈bv):∃v,(x.1,v)∈bs:=
 h.by (P:=λbs bv=>x∈bv->∃v,(x.1,v)∈bs) (λh=>nomatch h) (λa v bs w bv _ _ ih hx=>by
  rcases jJ hx with rfl|hx
  ·exact ⟨v,fg ..⟩
  ·exact ei (ih hx) λv hv=>⟨v,i8 _ hv⟩) hx
def KD(B:lH)(env:Env)(fl:List Env)(up:Up)(ρ:List bj)(s:aM)(fr:eB)(os':List O)(r:CR)(R:BJ->aM->Prop):Prop:=match r with
 | .ret v=>∀ρ' s' x,Step ρ (wr up env) s ρ' s'->Step ρ (V3 up) s ρ' s'->Fits B ρ' os' fr up env fl s'->cA ρ' v x->R (.ok (.ret x)) s'
 | .exc i=>∀ρ' s' x,Step ρ (wr up env) s ρ' s'->Fits B ρ' os' fr up env fl s'->cA ρ' (.ref i) x->RX ρ' s s' x->R (.error x) s'
theorem HB(zc:eh c B)(hex:∀b,lL B c ⟨n,ao⟩ b){fa:bj}{t:ay}{d:Option bj}{fd:kR}(hK:B.K.lookup fa=af ⟨t,d,.func fd,sl⟩){r:CR}
  (e:LX c fd as σ up.fz=af (r,os')) {A:iW}{ρ:List bj}{s:aM}{R:BJ->aM->Prop}{vals:List ay}(Im:A.depth+(2*n+1)<recursionLimit) (hun:A.units+20*n+210<cLine) (hh:A.handled=ae) (a:A.frames=af fl) (F:Fits B ρ σ fr up env fl s) (hv:bM ρ as vals)
  (q:KD B env fl up ρ s fr os' r R):gK (model B.pr B.w) A (.call (.ref fa) ⟨vals,[]⟩) R s:=by
 refine Tb e λXi e=>?_;rw [zc.K] at Xi e;refine iQ (Ky (by simpa using Xi)) λh1 h2 h3 h4 h5 r'1=>?_;refine iQ r'1 λh6 h7 h8 h9 Xh r'2=>?_;refine dZ r'2 λh11 h12=>?_;refine eW e λpO hdf e=>?_;refine eW e λbody hb e=>?_;have hb:=Tf hb;refine eW e λp hbc e=>?_;obtain ⟨C5,s₁⟩:=p;refine aR (MM (M:=model B.pr B.w) (A:=A.in1) (E:=λe s'=>R (.error e) s') F.isIn hdf) λdv hdv hseq=>?_;have UX:bM ρ pO dv:=hdv.ext ⟨ρ,by simp⟩;refine codeAny_call_function (by exact aV (aF _ _) Im) (F.isIn _ _ hK) rfl h9 h8 hb (P5 F.isIn Xh) ?_;have run:∀(ρ_1:List bj) (σ_1:List O) (t_1:aM) (bs:List (Str × V)) (bv:List (Str × ay)),s₁.os=σ_1->C5=putAll [] bs->Fits B ρ_1 σ_1 fr up env fl t_1->Step ρ (wr up env) s ρ_1 t_1->Step ρ (V3 up) s ρ_1 t_1->z8 fd.scope bs=ao->cW ρ_1 bs bv->
   wpAny (model B.pr B.w) A.in1 (newFunctionEnv fd.scope fd.globals fd.closure bv (fd.qualname++ ".<locals>.") (af fa) fd.code ae fd.builtins) (λenv s_2=>s_2.heap.NoLimit/\gK (model B.pr B.w) A (.func body env) R s_2) (λe s'=>R (.error e) s') t_1:=by
  intro ρ_1 σ_1 t_1 bs bv hσ hfr F_1 gk stC hks Xj;subst hσ hfr;rw [h4,h5,h6];have hkv:∀x∈bv,fd.scope.names.lookup x.1=af .local∨(fd.scope.names.lookup x.1=af .cell/\((gC (t_1.heap.objs.size+1) fd.scope.names []).lookup x.1).isSome=ao):=λx hx=>by
   have:∃v,(x.1,v)∈bs:=Kz Xj hx;obtain ⟨v,hm⟩:=this;have:=bK.mp hks _ hm;rw [ez,decide_eq_true_eq,decide_eq_true_eq] at this;rcases this with h|h
   ·exact .inl h
   ·obtain ⟨cc,hcc⟩:=mY (n:=t_1.heap.objs.size+1) (acc:=[]) (.inl (mem_of_lookup h));obtain ⟨c',hc'⟩:=pe hcc;exact .inr ⟨h,by simp only at hc';refine hc'▸ ?_;rfl⟩
  refine wpAny_newFunctionEnv_cells h7 hkv λenv' he s' x=>?_;refine iz (F_1.call (fn:=af fa) h7 h12 hks h11 he Xj x) λFC above OK hlo=>?_;refine gc x.done λhh' tk' hs' _=>?_;refine ⟨(B.lim.keeps F_1.base).keeps x.toInCall.keep,codeAny_func ?_⟩;have rm':kE (A.deeper env') ⟨n,ao⟩:=⟨by show A.depth+1+2*n<_;exact Vj Im,by show A.units+3+20*n+200<_;exact aV (ai (ar (congrArg (· +200) (aN _ 3 _))) (bF (ak rfl:203<=210) _)) hun,λ_=>hh⟩;have a':(A.deeper env').frames=af (env'::fl):=Around.frames_deeper a;refine eW e λp hx e=>?_
  ·obtain ⟨f,s_2⟩:=p;have back:∀{ρ' s'' ej},Step ρ_1 (wr ⟨fd.scope,[],up.fz,t_1.heap.objs.size::up.kD⟩ env') s' ρ' s''->Fits B ρ' s_2.os ej ⟨fd.scope,[],up.fz,t_1.heap.objs.size::up.kD⟩ env' (env'::fl) s''->Step ρ_1 (wr up env) t_1 ρ' s''/\Fits B ρ' s_2.os fr up env fl s''/\Step ρ_1 (V3 up) t_1 ρ' s'':=λst' F'=>
    F_1.ret x.toInCall.keep ⟨[],by simp,λ_ h=>nomatch h⟩ above (ax _) st' F' (by refine hs'▸ ?_;exact ⟨rfl,rfl,rfl⟩)
   refine hex body env' (env'::fl) ⟨fd.scope,[],up.fz,t_1.heap.objs.size::up.kD⟩ _ _ f s_2 ⟨OK,⟨fl,rfl⟩⟩ hx (A.deeper env') ρ_1 s' _ _ rm' a' FC ?_;induction f using Fl.casesOn with
   |next=>
    obtain ⟨⟩:=e;intro ρ' s'' tZ st' F' hf;subst hf;refine cT (back st' F') λst'' zb UY=>?_;exact q ρ' s'' .none (gk.trans st'') (stC.trans UY) zb rfl
   |ret v=>
    obtain ⟨⟩:=e;rintro ρ' s'' tZ st' F' ⟨y,rfl,hy⟩;refine cT (back st' F') λst'' zb UY=>?_;exact q ρ' s'' y (gk.trans st'') (stC.trans UY) zb hy
   |brk=>exact nn e
   |cont=>exact nn e
   |exc i=>
    obtain ⟨⟩:=e;rintro ρ' s'' y C tt st' F' hy ⟨ea,oe,vs,rfl,g1,g2,g3,g4⟩ hexc;refine cT (back st' F') λst'' zb _=>?_;have total:=gk.trans st'';refine aR hy λea' Xk OL=>?_;(injection OL with OL;subst OL);unfold leaving;refine aB (A0 a' F'.yS OK g2 g3 g4 λh_1 T oT ts hN hT Lx Gp hT_1 Ln hz=>?_);have hd_1:(oe.mapFields (·.setIfInBounds 1 (.ref T))).data= .fields (vs.setIfInBounds 1 (.ref T)):=gY g3 _;have Gq:1<vs.size:=(dM.mp g4).1;refine pd (s:={s'' with heap:=h_1}) Gp hd_1 (by simp [Gq]) hT_1 Ln hz λh_2 Zv ts' Su Gr UZ Xl aaj=>?_;have Xm:t_1.heap.get? t_1.heap.objs.size=ae:=lu;have efr:s.heap.get? ea=ae:=by
     induction qq:s.heap.get? ea using aw with
     |none=>rfl
     |some o=>obtain ⟨o',h'⟩:=gk.live _ _ qq;have:=x.toInCall.keep _ _ h';rw [g1] at this;exact nn this
    have Tfr:s.heap.get? T=ae:=by
     induction qq:s.heap.get? T using aw with
     |none=>rfl
     |some o=>obtain ⟨o',h'⟩:=total.live _ _ qq;rw [hT] at h';exact nn h'
    have Lfr:s.heap.get? t_1.heap.objs.size=ae:=by
     induction qq:s.heap.get? t_1.heap.objs.size using aw with
     |none=>rfl
     |some o=>obtain ⟨o',h'⟩:=gk.live _ _ qq;rw [Xm] at h';exact nn h'
    have eT:t_1.heap.get? ea=ae:=by
     induction qq:t_1.heap.get? ea using aw with
     |none=>rfl
     |some o=>have:=x.toInCall.keep _ _ qq;rw [g1] at this;exact nn this
    have N1:jr [ea,T,t_1.heap.objs.size] up.kD s''.heap h_1:=by
     refine ⟨λb o hb hf EC=>hN.keep b o (λqq=>hb (by simp at qq;simp [qq])) (λhm=>?_) EC,λb o hb hf EC=>?_⟩
     ·have:=F'.ML b hm;rcases jJ this with rfl|hm
      ·exact hb (by simp)
      ·exact hf hm
     ·by_cases hm:b∈(env'::fl).filterMap (·.frame)
      ·exact hN.wM b o (λqq=>hb (by simp at qq;simp [qq])) hm EC
      ·exact ⟨o,hN.keep b o (λqq=>hb (by simp at qq;simp [qq])) hm EC,rfl⟩
    have N2:jr [ea,T,t_1.heap.objs.size] up.kD h_1 h_2:=Su.mono (by first|exact all1 (by first|exact .head _|exact .tail _ (.head _)|exact .tail _ (.tail _ (.head _)))|exact all2 (by first|exact .head _|exact .tail _ (.head _)|exact .tail _ (.tail _ (.head _))) (by first|exact .head _|exact .tail _ (.head _)|exact .tail _ (.tail _ (.head _)))) λb hb=>nomatch hb
    have N12:=N1.trans N2;have heh:h_2.get? ea=af (oe.mapFields (·.setIfInBounds 1 (.ref T))):=Su.keep _ _ (by simp;exact λhq=>Lx hq.symm) (λhq=>nomatch hq) Gp;have Tρ:T∉ρ':=λhm=>by
     have:=zb.rep.lt hm;obtain ⟨i',hi',OL⟩:=oh hm;have U0:i'<s_2.os.length:=zb.rep.len▸hi';refine ck (zb.rep.obj i' s_2.os[i'] (de U0)) λb' r' k1 k2 _=>?_;rw [de hi',OL] at k1;(injection k1 with k1;subst k1);rw [hT] at k2;exact nn k2
    have Zx:∀b∈ [ea,T,t_1.heap.objs.size],b∉own env/\B.h₀.get? b=ae/\b∉up.kD:=by
     intro b hb;have hnone:t_1.heap.get? b=ae:=O9 (P:=λb=>t_1.heap.get? b=ae) eT (by
      induction qq:t_1.heap.get? T using aw with
      |none=>rfl
      |some o=>obtain ⟨o',h'⟩:=st''.live _ _ qq;rw [hT] at h';exact nn h') Xm b hb
     refine ⟨λhm=>?_,?_,F_1.xC hnone⟩
     ·obtain ⟨o,ho⟩:=F_1.jK b hm;rw [hnone] at ho;exact nn ho
     ·induction qq:B.h₀.get? b using aw with
      |none=>rfl
      |some o=>have:=F_1.base _ _ qq;rw [hnone] at this;exact nn this
    refine q ρ' {s'' with heap:=h_2} (.ref ea) (total.xN (S:=[ea,T,t_1.heap.objs.size]) (O9 (by assumption) (by assumption) (by assumption)) N12) (zb.xN N12 Zx λj o b hj OM hb=>?_) ⟨ea,Xk,rfl⟩
     ⟨ea,T,_,_,_,_,rfl,efr,Tfr,Tρ,Lx,heh,hd_1,by simp [Gq],Gr,UZ,Xl⟩
    simp at hb;rcases hb with rfl|rfl|rfl
    ·have hlt:j<ρ'.length:=(cP.mp OM).1;have:j=i:=(ip hlt zb.rep.nd).mp (OM.trans Xk.symm);subst this;rw [hexc] at hj;(injection hj with hj;subst hj);refine ck (zb.rep.obj _ _ hexc) λb' r' k1 k2 r'3=>?_;refine eu r'3 λaa fs k3 k4 k5 k6=>?_;rw [OM] at k1;(injection k1 with k1;subst k1);rw [g2] at k2;(injection k2 with k2;subst k2);rw [g3] at k5;(injection k5 with k5;subst k5);exact ⟨_,heh,aa,_,k3,(md _ _).trans k4,hd_1,by refine (mu (by decide)).trans ?_;exact k6⟩
    ·exact absurd (bN OM) Tρ
    ·exfalso;have hm:=bN OM;exact F'.rO env'.locals (fg ..) (by rw [hlo];exact hm)
 unfold bindC at hbc;split at hbc
 rotate_left
 ·exact nn hbc
 rename_i Zy
 refine Fj h1 h2 h3 hseq (by refine (Kx UX hv).symm.trans ?_;exact Zy) ?_;induction hva:fd.params.vararg using aw with
 |none=>
  rw [hva] at hbc;dsimp only at hbc;split at hbc
  ·rename_i hks
   obtain ⟨rfl,rfl⟩:=aK hbc;exact run ρ σ s _ _ rfl rfl F Step.refl Step.refl hks (CO UX hv)
  ·exact nn hbc
 |some va=>
  rw [hva] at hbc;dsimp only at hbc;refine bQ hbc λtv s_3 h13 e3=>?_;refine cT (eQ h13) λhz q'4 q'5=>?_;obtain rfl:=q'4;obtain rfl:=q'5;split at e3
  ·rename_i hks
   obtain ⟨rfl,rfl⟩:=aK e3;have hz':=iK (show decide _=ao from hz);have hdr:bM ρ (as.drop fd.params.args.length) (vals.drop fd.params.args.length):=hv.drop _;have hl:=hdr.length;dsimp only;refine jS ?_ (by show (vals.drop fd.params.args.length).toArray.size<=2^24;rw [gx];exact Pa hl hz' rfl);refine cT (F.alloc (o:=.tuple (as.drop fd.params.args.length)) (r:={cls:=.type "tuple",data:=.seq (vals.drop fd.params.args.length).toArray}) ⟨_,0,rfl,by simpa using hdr,by rw [gx];exact ai (ar hl.symm) hz'⟩ s.toks) λb1 b2 b3=>?_;exact run _ _ _ _ _ rfl rfl b2 b1 step_alloc hks (cW.snoc b3 (CO (UX.ext b1.ext') (hv.ext b1.ext')))
  ·exact nn e3
theorem MN{C:bj}:(A.under (.builtin "type.__call__" ⟨.ref C::vals,[]⟩)).depth=A.depth+1/\(A.under (.builtin "type.__call__" ⟨.ref C::vals,[]⟩)).frames=A.frames/\(A.under (.builtin "type.__call__" ⟨.ref C::vals,[]⟩)).handled=A.handled/\
  (A.under (.builtin "type.__call__" ⟨.ref C::vals,[]⟩)).units=A.units+1:=by
 refine ⟨rfl,?_,rfl,rfl⟩;show pushEnvs [] A.frames=A.frames;cases A.frames<;>rfl
theorem MO{r:CR}(h:z9 r=ao):r= .ret .none:=by
 induction r using CR.casesOn with
 |ret v=>induction v using V.casesOn<;>first|rfl|injection h
 |exc i=>injection h
theorem P6(zc:eh c B)(hex:∀b,lL B c ⟨n,ao⟩ b){C:bj}{t:ay}{d:Option bj}{cd:oU}(hK:B.K.lookup C=af ⟨t,d,.cls cd,sl⟩){r:CR}
  (e:IP c C cd as σ up.fz=af (r,os')) {A:iW}{ρ:List bj}{s:aM}{R:BJ->aM->Prop}{vals:List ay}(Im:A.depth+(2*n+2)<recursionLimit) (hun:A.units+20*n+219<cLine) (hh:A.handled=ae) (a:A.frames=af fl) (F:Fits B ρ σ fr up env fl s) (hv:bM ρ as vals)
  (q:KD B env fl up ρ s fr os' r R):gK (model B.pr B.w) A (.call (.ref C) ⟨vals,[]⟩) R s:=by
 refine Tb e λhm0 e=>?_;rw [zc.K] at hm0 e;have hm:makesIn B.K C=ao:=by simpa using hm0
 refine eW e λf hf e=>?_;refine Tb e λZz e=>?_;have hfn:BL B.K (.ref f)=af (.type "function"):=by
  have:PySem.W.isFn B.K (.ref f)=ao:=by simpa using Zz
  dsimp only [PySem.W.isFn] at this;exact beq_iff_eq.mp this
 have hf:=IU hf;refine eW e λfd hfl e=>?_;refine sO (VK hfl) λt' d' OI hfl=>?_;refine eW e λp hdc e=>?_;refine Lu e λXn e=>?_;obtain ⟨r',Et⟩:=p;obtain ⟨⟩:=e;obtain rfl:=MO Xn;obtain ⟨hp,g,dr,tk,os⟩:=s;refine make_core (makes_of F.isIn hm) (looks_findIn F.isIn hf) (λself=>bind_fn F.isIn self hfn) (.inl rfl) ?_;refine cT (F.alloc (o:=.ns []) (r:=emptyDict) ⟨#[],0,rfl,(λe he=>by simp at he),by dsimp only [UniqKeys];simp,λx=>rfl⟩ tk) λb1 b2 b3=>?_;refine iz (MN (A:=A) (C:=C) (vals:=vals)) λhu1 ZA hu3 hu4=>?_;have hd:(ρ++ [hp.objs.size])[σ.length]? =af hp.objs.size:=by refine (F.rep.len).symm▸ ?_;simp
 have hor:ou B.pr B.w (ρ++ [hp.objs.size]) (LY cd C σ.length) (instObj C hp.objs.size):=by
  dsimp only [LY];split
  ·exact ⟨hp.objs.size,hd,rfl⟩
  ·refine ⟨hp.objs.size,#[],hd,rfl,by exact iK rfl,λk=>?_⟩;have:((gW 5 (ae:Option V))[k]?).join=ae:=by
    refine (List.getElem?_replicate)▸ ?_;split<;>rfl
   rw [this];show ((#[]:Array (Option ay))[k]?).join=ae;rfl
 refine cT (b2.alloc (o:=LY cd C σ.length) (r:=instObj C hp.objs.size) hor tk) λc1 c2 c3=>?_;have hsz:(hp.push emptyDict).objs.size=hp.objs.size+1:=l7 ..;have hself:cA (ρ++ [hp.objs.size]++ [(hp.push emptyDict).objs.size]) (.ref (σ.length+1)) (.ref (hp.objs.size+1)):=by
  have:=c3;rw [aq,hsz] at this;simpa using this
 refine HB (n:=n) zc hex hfl (as:=.ref (σ.length+1)::as) (σ:=σ++ [O.ns []]++ [LY cd C σ.length]) (by rw [aQ];exact hdc) (by refine hu1▸ ?_;exact Vj Im) (hu4▸aV (ai (ar (congrArg (· +210) (aN _ 1 _))) (bF (ak rfl:211<=219) _)) hun) (hu3.trans hh) (ZA.trans a) c2 ⟨hself,(hv.ext b1.ext').ext c1.ext'⟩ ?_;intro ρ' s' x st' sc' F' hx;subst hx;exact ⟨rfl,q ρ' s' _ ((b1.trans c1).trans st') ((step_alloc.trans step_alloc).trans sc') F' (hself.ext st'.ext')⟩
theorem P7{K:r8}{ib:List bj}{fuel:Nat}(hK:B.K=K)(hex:∀b,lL B ⟨K,aj,callC K aj ib fuel n,fuel,ao,ib⟩ ⟨n,ao⟩ b)(zc:eh ⟨K,aj,callC K aj ib fuel n,fuel,ao,ib⟩ B):
  kF B ⟨K,aj,callC K aj ib fuel (n+1),fuel,hd,ib⟩ ⟨n+1,hd⟩:=by
 intro env fl up fr σ a as r os' e A ρ s Q E vals rm fa hh F hv q;have e':(match fdOf (K.lookup a) with
  |some fd=>LX ⟨K,aj,callC K aj ib fuel n,fuel,ao,ib⟩ fd as σ up.fz
  |none=>(Pe (K.lookup a)).bind λcd=>IP ⟨K,aj,callC K aj ib fuel n,fuel,ao,ib⟩ a cd as σ up.fz)=af (r,os'):=e
 have q':KD B env fl up ρ s fr os' r (λr s'=>match r with| .ok (.ret v)=>Q v s'| .ok _=>False| .error e=>E e s'):=by
  induction r using CR.casesOn with
  |ret v=>exact λρ' s' x st _ F hx=>q ρ' s' x st F hx
  |exc i=>exact λρ' s' x st F hx hf=>q ρ' s' x st F hx hf
 have Im:A.depth+2*(n+1)<recursionLimit:=rm.depth;have hun:A.units+20*(n+1)+200<cLine:=rm.units;induction hq:fdOf (K.lookup a) using aw with
 |some fd=>
  rw [hq] at e';refine sO (VK hq) λt d sl hl=>?_;exact HB (n:=n) zc hex (by rw [hK];exact hl) e' (by exact Nat.lt_of_succ_lt Im) (aV (bF (ak rfl:210<=220) _) hun) hh fa F hv q'
 |none=>
  rw [hq] at e';refine eW e' λcd hq' e'=>?_;refine sO (YO hq') λt d sl hl=>?_;exact P6 (n:=n) zc hex (by rw [hK];exact hl) e' (Im) (aV (bF (ak rfl:219<=220) _) hun) hh fa F hv q'
def xO(B:lH):Prop:=∀C∈B.ib,∃(nm q:Str) (N:bj) (bs bm:List ay) (hdct:Bool) (sn:List Str) (sub:List ay) (ab:Bool) (col:Option Bool) (dd:Option bj) (k0 k1 k2 k3 k5:Option ay) (newId initId Bn:String) (mN:Str->Option ay),
 B.h₀.get? C=af (excClassObj nm q C N bs bm hdct sn sub ab col dd k0 k1 k2 k3 k5 newId)/\ExcBaseFacts Bn newId initId bm/\B.h₀.Ns N mN/\mN "__init__" =ae
section
variable{s_0:aM}
theorem Fits.adopt{o:O}{r:Obj}(F:Fits B ρ σ fr up env fl s)(o6:Hid B ρ env up a)(ha:s.heap.get? a=af r)(hr:ou B.pr B.w ρ o r):Fits B (ρ++ [a]) (σ++ [o]) fr up env fl s:=by
 have x:Ext ρ (ρ++ [a]):=⟨_,rfl⟩;have ne:∀b,b∉ρ->b≠a->b∉ρ++ [a]:=λb h1 h2 h=>by
  rcases aG.mp h with h|h
  ·exact h1 h
  ·exact h2 (aL.mp h)
 refine ⟨⟨by simp [F.rep.len],?_,?_,λi o' ho=>?_,F.rep.keep⟩,F.mw.keep x λ_ _ _ e=>e,F.ok,λb hb=>ne b (F.rO b hb) (by rintro rfl;exact o6.own hb),F.oY,F.jK,F.mG,F.oZ,F.gens,F.L8,λL hL=>?_⟩
 ·refine (bk).mpr ?_;exact ⟨F.rep.nd,by exact iK rfl,λb hb c hc=>by simp at hc;subst hc;rintro rfl;exact o6.ρ hb⟩
 ·intro b hb;rcases aG.mp hb with hb|hb
  ·exact F.rep.new b hb
  ·refine (aL.mp hb)▸ ?_;exact o6.base
 ·rcases et i σ.length with q|q
  ·rw [aJ q] at ho;refine ck (F.rep.obj i o' ho) λb r' h1 h2 h3=>?_;exact ⟨b,r',x.at h1,h2,h3.ext x⟩
  ·rw [bT q] at ho;have:i-σ.length=0:=by
    rcases w5 (i-σ.length) with z|z
    ·exact z
    ·rw [eE (by simp;exact z)] at ho;exact nn ho
   rw [this] at ho;simp at ho;subst ho;have hi:i=ρ.length:=by refine F.rep.len▸ ?_;exact hV (mB this) q
   subst hi;exact ⟨a,r,by simp,ha,hr.ext x⟩
 ·refine iz (F.Dr L hL) λh3 h4 h5 h6=>?_;exact ⟨h3,ne L h4 (by rintro rfl;exact o6.fr hL),h5,h6⟩
theorem Step.adopt{W:Wr}(x:Step ρ W s_0 ρ' s)(ha:s_0.heap.get? a=ae):Step ρ W s_0 (ρ'++ [a]) s:=by
 refine aR x.ext λm e hm=>?_;refine ⟨⟨m++ [a],by rw [e,aQ],λb hb=>?_⟩,x.live,x.keep,x.wM,x.gens,x.os,x.drawn⟩;rcases aG.mp hb with hb|hb
 ·exact hm b hb
 ·refine (aL.mp hb)▸ ?_;exact ha
theorem Fits.yT(F:Fits B ρ σ fr up env fl s)(ha:s.heap.get? a=ae):Hid B ρ env up a:=by
 refine ⟨λh=>?_,λh=>?_,?_,F.xC ha⟩
 ·obtain ⟨i,hi,OL⟩:=oh h;have U0:i<σ.length:=F.rep.len▸hi;refine ck (F.rep.obj i σ[i] (de U0)) λb' r' k1 k2 _=>?_;rw [de hi,OL] at k1;(injection k1 with k1;subst k1);rw [ha] at k2;exact nn k2
 ·obtain ⟨o,ho⟩:=F.jK a h;rw [ha] at ho;exact nn ho
 ·induction q:B.h₀.get? a using aw with
  |none=>rfl
  |some o=>have:=F.base _ _ q;rw [ha] at this;exact nn this
end
section
variable{k:Lv}
theorem Cc{x:au}{q:Str × List au}(h:ER x=af q):q.2.all notStar=ao/\∃np cp,x= .Call (.Name q.1 np) q.2 [] cp:=by
 refine eW h λg h1 h2=>Lu h2 λh3 h4=>lmap h4 λy h5 h6=>lG (wL h5) λp h7=>?_;subst h6;exact ⟨h3,p,g.2.2,(G8 h1).trans (h7▸rfl)⟩
theorem MP{e cs:Option au}(H:yO B c k)(X:xO B)(hname:∀x p,dP B c k (.Name x p))(hargs:∀as,o7 B c k as):uO B c k (.Raise e cs pos):=λenv fl up fr σ f s₁ hF ev A ρ s Q E rm a F q=>by
 refine Ta ev λhz JI=>?_;clear ev;rw [ez,not_or] at hz;refine nE JI λna hna Rt=>?_;clear JI;obtain rfl:cs=ae:=by
  induction cs using aw with
  |none=>rfl
  |some _=>exact absurd rfl hz.2
 refine eW hna λx hx hna=>?_;refine dZ (Cc hna) λhns q'1=>?_;refine An q'1 λnp cp q'2=>?_;obtain ⟨cn,args⟩:=na;subst hx;subst q'2;have hname:=hname cn np;have hargs:=hargs args;have BG:c.hd=ao:=by simpa using hz.1
 have hh:A.handled=ae:=rm.hd (H.hd BG);refine bQ Rt λw s_2 h1 e1=>?_;clear Rt;refine bZ e1 λC w2 e2=>?_;clear e1;obtain rfl:=IT w2;refine Ta e2 λhC e3=>?_;clear e2;have ZC:C∈B.ib:=by refine (H.n9.ib).symm▸ ?_;exact Classical.byContradiction hC
 refine bQ e3 λas s_3 h2 e4=>?_;clear e3;refine bQ e4 λtv s_4 h3 e3=>?_;clear e4;refine cT (eQ h3) λhsz q'1 q'2=>?_;subst q'1;subst q'2;refine bQ e3 λev' s_5 h4 e4=>?_;clear e3;refine cT (eQ h4) λ_ q'3 q'4=>?_;subst q'3;subst q'4;obtain ⟨rfl,rfl⟩:=aK e4;refine gH (X C ZC) λnm qn N bs r'5=>?_;refine gH r'5 λbm hdct sn sub r'6=>?_;refine gH r'6 λab col dd k0 r'7=>?_;refine gH r'7 λk1 k2 k3 k5 r'8=>?_;refine sP r'8 λnewId initId Bn mN ZD Fb hN hni=>?_;have Ik:cU c (.Name cn np) up.sc up.vals up.fz ⟨fr,σ⟩=af (.top C,s_2):=h1;have hall:=CN (env:=env) (pos:=cp) hns;refine wpAny_Raise_call_sub (nm:=nm) (q:=qn) (C:=C) (N:=N) (bs:=bs) (bm:=bm) (hdct:=hdct) (sn:=sn) (sub:=sub) (ab:=ab) (col:=col) (dd:=dd) (k0:=k0) (k1:=k1) (k2:=k2) (k3:=k3) (k5:=k5) Fb (mN:=mN) hh (by
  refine (yt).mpr ?_;intro x hx;have:=bK.mp hall x hx;simpa using this) hni ?_
 refine hname env fl up fr σ _ s_2 Ik A ρ s _ E rm a F λρ_1 t_1 x gk F_1 hx=>?_;subst hx;refine ⟨rfl,xJ H.n9 hargs (λe p h=>by subst h;injection hns) h2 rm a F_1 λρ_2 t_2 vs kB F_2 hvs=>?_⟩;have hz':=iK (show decide _=ao from hsz);have hl:=hvs.length;refine ⟨rfl,by show vs.length<=2^24;exact Pa hl hz' rfl,F_2.base _ _ ZD,hN.keeps F_2.base,λh' e hm=>?_⟩;refine cO hm.there λt ht1 Xo ZE=>?_;obtain ⟨stG,FG⟩:=F_2.grown (h':=h') hm.keeps t_2.toks;have ZF:=F_2.yT Xo;have hide:=F_2.yT hm.new;have hte:e≠t:=by rintro rfl;rw [ht1] at ZE;cases ZE
 have Ft:=FG.adopt (o:=.tuple as) ZF ZE ⟨vs.toArray,0,rfl,by simpa using hvs,by refine gx▸ ?_;exact ai (ar hl.symm) hz'⟩;have Xp:Hid B (ρ_2++ [t]) env up e:=⟨λh=>by
  rcases aG.mp h with h|h
  ·exact hide.ρ h
  ·exact hte (aL.mp h),hide.own,hide.base,hide.fr⟩
 have TK:(ρ_2++ [t])[s_3.os.length]? =af t:=by refine (F_2.rep.len).symm▸ ?_;simp
 have Fe:=Ft.adopt (o:=.exc C s_3.os.length) Xp ht1 ⟨t,_,TK,rfl,rfl,rfl⟩;have st:=(((gk.trans kB).trans stG));have fresh:∀b,t_2.heap.get? b=ae->s.heap.get? b=ae:=λb hb=>by
  induction qq:s.heap.get? b using aw with
  |none=>rfl
  |some o=>obtain ⟨o',h'⟩:=(gk.trans kB).live _ _ qq;rw [hb] at h';exact nn h'
 refine q _ _ (.ref e) C s_3.os.length ((st.adopt (fresh t Xo)).adopt (fresh e hm.new)) Fe ⟨e,?_,rfl⟩ ⟨e,_,_,rfl,fresh e hm.new,ht1,rfl,rfl⟩ ?_
 ·show (ρ_2++ [t]++ [e])[(s_3.os++ [jk as]).length]? =af e;rw [aq,←F_2.rep.len];simp
 ·show (s_3.os++ [jk as]++ [O.exc C s_3.os.length])[(s_3.os++ [jk as]).length]? =_;simp
end
theorem HC(a:ay):checkBoundCall "list_iterator.__next__" ⟨[a],[]⟩=aA ():=by kernel_rfl
theorem HD{M:Model}{q:bj}(h:pQ)(X:h.get? q=af (sX a)):∃k,(k=oJ∨k=lX∨k=jQ)/\Looks M h (yw (.ref q)) k:=by
 refine ⟨.machine,.inr (.inl rfl),(Looks.ld (part:=none) X).andThen ?_⟩;exact .now
theorem KC{q:bj}(X:s.heap.get? q=af (sX a))(h:gK (model prog w) A (.builtin "list_iterator.__next__" ⟨[.ref a],[]⟩) R s):gK (model prog w) A (.call (.ref q) ⟨[],[]⟩) R s:=by
 obtain ⟨hh,g,dr,t,os⟩:=s;refine codeAny_of_tree ?_;show wpAny _ _ (callAny (.ref q) _) _ _ _;dsimp only at X;refine nd_load X ?_;show wpAny _ _ (checkBoundCall "list_iterator.__next__" ⟨[.ref a],[]⟩>>=λ_=>again (.builtin "list_iterator.__next__" ⟨[.ref a],[]⟩)) _ _ _;rw [HC];exact aB (bG (bG ⟨w8 _ (by decide+kernel),h⟩))
noncomputable abbrev A1(l:bj)(k:Nat):Obj:=⟨.type "list_iterator",ae,.fields #[.ref l,.int k 0],#[]⟩
theorem next_item{it l:bj}{items:Array ay}{x:ay}(hit:s.heap.get? it=af (A1 l k))(hl:s.heap.get? l=af ⟨.type "list",ae,.seq items n,#[]⟩)(hx:items[k]? =af x)
  (h:∀h',h'.get? it=af (A1 l (k+1))->il it s.heap h'->R (.ok (.ret x)) {s with heap:=h'}):gK (model prog w) A (.builtin "list_iterator.__next__" ⟨[.ref it],[]⟩) R s:=by
 refine t6 v5 ?_;show wpAny _ _ (field (.ref it) 0>>=_) _ _ s;refine aB (kb hit rfl (x:=.ref l) rfl ?_);show wpAny _ _ (if (cB l==cq)=ao then _ else _) _ _ s;refine (if_neg (show¬((cB l==cq)=ao) from bh))▸ ?_;show wpAny _ _ (field (.ref it) 1>>=_) _ _ s;refine aB (kb hit rfl (x:=.int k 0) rfl ?_);show wpAny _ _ (zh (.ref l)>>=_) _ _ s;refine aB (vl hl rfl ?_);simp only [me,hx];refine aB (ma hit rfl (by exact ax _) (bG (h _ ?_ (kJ ..))));have:=fO (gN (·.setIfInBounds 1 (xc (((k:Nat)+1:Nat):Int)))) hit rfl;exact this
theorem next_end{it l:bj}{items:Array ay}(hh:A.handled=ae)(hit:s.heap.get? it=af (A1 l k))(hl:s.heap.get? l=af ⟨.type "list",ae,.seq items n,#[]⟩)(hx:items[k]? =ae)
  (h:∀h' e oe vs oi,Heap.ExtBut it s.heap h'->h'.get? it=af oi->s.heap.get? e=ae->h'.get? e=af oe->oe.cls= .type "StopIteration" ->oe.data= .fields vs->vs[1]? =af .none->R (.error (.ref e)) {s with heap:=h'}):gK (model prog w) A (.builtin "list_iterator.__next__" ⟨[.ref it],[]⟩) R s:=by
 refine t6 v5 ?_;show wpAny _ _ (field (.ref it) 0>>=_) _ _ s;refine aB (kb hit rfl (x:=.ref l) rfl ?_);show wpAny _ _ (if (cB l==cq)=ao then _ else _) _ _ s;refine (if_neg (show¬((cB l==cq)=ao) from bh))▸ ?_;show wpAny _ _ (field (.ref it) 1>>=_) _ _ s;refine aB (kb hit rfl (x:=.int k 0) rfl ?_);show wpAny _ _ (zh (.ref l)>>=_) _ _ s;refine aB (vl hl rfl ?_);simp only [me,hx];refine aB (wpAny_rule (aB (ma hit rfl (by exact lF _) ?_)));show wpAny _ _ (newExc (.type "StopIteration") []>>=_) _ _ _;refine aB ?_;simp only [newExc,newTuple];refine aB (jS ?_ (by exact dH _ _));refine aB (m:=firstArgMember _ _) (nO (a:=cq) (by first|rfl|(simp only [firstArgMember];rfl)) ?_);refine jS ?_ (by exact dH _ _);dsimp only [raiseNew];refine aB (wpAny_handled ?_);have hh':∀c,(A.under c).handled=ae:=λc=>hh;rw [hh'];have hoi:=fO (gN (·.setIfInBounds 0 cq)) hit rfl;refine aB (bG (wpAny_throw (h _ _ _ _ _ (((kJ ..).extBut.push _).push _) (aP _ (aP _ hoi)) ?_ (dc _ rfl) rfl rfl rfl)));induction q:s.heap.get? _ using aw with
 |none=>rfl
 |some o=>
  have h1:=dj q;rw [l7,Heap.size_after_update] at h1;exact absurd h1 (cC.mpr (lF _))
theorem MQ:r7 (.type "StopIteration") (.type "BaseException")=aA ao:=by rw [iY];kernel_rfl
theorem P8:r7 (.type ((Manifest.find? "StopIteration").elim "type" λy=>y.metatype)) (.type "tuple")=aA bc:=by rw [iY];kernel_rfl
theorem MR:r7 (.type "StopIteration") (.type "StopIteration")=aA ao:=by rw [iY];kernel_rfl
section
variable{k:Lv}
theorem kE.marked{x:ay}(r:kE A k):kE (A.mark (af x)) ⟨k.n,bc⟩:=⟨r.depth,r.units,λh=>by injection h⟩
theorem V4{o:Option α}{r:α}(e:o=af r)(h:o=ae):C:=nn (h.symm.trans e)
theorem TL{M:Model}{t:Sem α}{Q:α->aM->Prop}(h:∀Q' E',(∀a s',Q a s'->Q' a s')->(∀a s',E a s'->E' a s')->wpAny M A t Q' E' s):wpAny M A t Q E s:=h Q E (λ_ _=>id) λ_ _=>id
theorem TM(h:G4 v=ao):v= .type "StopIteration" :=by
 induction v using V.casesOn<;>first|exact congrArg _ (iK h)|injection h
theorem HE{tn:Str}{xp cp ap tp hp:Pos}{f:au}{rest hb:List fV}{h0:fV}{w:V}{s_2:eP}(H:yO B c k)(hf:dP B c k f)(hrest:lL B c k rest)(hname:dP B c ⟨k.n,bc⟩ (.Name tn tp))(ZG:lL B {c with hd:=bc} ⟨k.n,bc⟩ (h0::hb))
  {env:Env}{fl:List Env}{up:Up}{fr:eB}{σ:List O}{fo:Fl}{s₁:eP}(hF:I4 env fl up) (BG:c.hd=ao) (hna:notAttr f=ao) (h1:cU c f up.sc up.vals up.fz ⟨fr,σ⟩=af (w,s_2))
  (e1:uF c (setC up.sc x) (jG c up.sc up.vals rest) (do if G4 (←zv c up.sc up.vals tn) then jG {c with hd:=bc} up.sc up.vals (h0::hb) else fail) w up.fz s_2=af (fo,s₁))
  {A:iW}{ρ:List bj}{s:aM}{Q:Flow->aM->Prop}{E:ay->aM->Prop}(rm:kE A k) (a:A.frames=af fl) (F:Fits B ρ σ fr up env fl s) (q:MH B env fl up ρ s s₁.fr s₁.os fo Q E):
  wpAny (model B.pr B.w) A (exec (.Try (.Assign [.Name x xp] (.Call f [] [] cp) ap::rest) [.ExceptHandler (af (.Name tn tp)) ae (h0::hb) hp] [] [] pos) env) Q E s:=by
 obtain ⟨outer,hfl⟩:=hF.hd;have hh:A.handled=ae:=rm.hd (H.hd BG);refine objE e1 λon h2 e2=>?_;clear e1;refine bZ e2 λit w1 e3=>?_;clear e2;obtain rfl:=Td w1;refine L9 e3 λoi h3' e4=>?_;clear e3;refine bZ e4 λlk w2 e5=>?_;clear e4;obtain rfl:=IQ w2;obtain ⟨l,kk⟩:=lk;refine L9 e5 λol GI e6=>?_;clear e5;refine bZ e6 λxs w3 e4=>?_;clear e6;obtain rfl:=wK w3;refine wpAny_Try_except (mU ?_);refine wpAny_Assign_Name ?_;have he:eval (.Call f [] [] cp) env=(do callWith cp (←eval f env) [] (ka cp (fG [] env)) []):=by
  induction f using bf<;>first|rfl|injection hna
 refine he▸ ?_;refine TL λQ' E' hQ hE=>?_;refine aB (hf env fl up fr σ w _ h1 A ρ s _ _ rm a F λρ_1 t_1 vf gk F_1 Yu=>?_);refine dZ (F_1.obj H.n9.aj h2 Yu) λ_ r'3=>?_;refine ck r'3 λqa rq q'1 gq r'4=>?_;refine aR r'4 λia ZH q'2=>?_;obtain rfl:=q'1;obtain rfl:=q'2;refine ck (F_1.rep.obj it _ h3') λia' ri k1 gi r'6=>?_;refine aR r'6 λla hla q'5=>?_;obtain rfl:=q'5;rw [ZH] at k1;(injection k1 with k1;subst k1);refine ck (F_1.rep.obj l _ GI) λla' rl k2 gl r'8=>?_;refine ck r'8 λys nn q'7 hys aal=>?_;obtain rfl:=q'7;rw [hla] at k2;(injection k2 with k2;subst k2);refine jZ (P:=λh=>h.get? qa=af (sX ia)) (λh X=>HD h X) (rI ⟨gq,?_⟩);refine pU (KC gq ?_);induction hk:xs[kk]? using aw with
 |some v=>
  rw [hk] at e4;refine bQ (m:=gU it (.kO l (kk+1))) e4 λu s_3 h5 e5=>?_;refine iz (i5 h5) λhlt hso hnf q'9=>?_;obtain rfl:=q'9;refine bQ e5 λu' s_4 h6 e6=>?_;refine bQ e6 λf' s_5 h7 e7=>?_;refine cT (wO e7) λq'10 q'11 hne=>?_;obtain rfl:=q'10;obtain rfl:=q'11;refine aR (hys.get hk) λy hy hvy=>?_;rw [cS] at hy;refine next_item gi gl hy λh' hi' hs'=>?_;obtain ⟨ZI,FS⟩:=F_1.setAt (o:=.kO l (kk+1)) hnf ZH hs' hi' ⟨la,hla,rfl⟩ t_1.toks;refine hQ _ _ ?_;refine o9 (k:=k) h6 rm a FS hvy λρ_2 t_2 kB F_2=>?_;refine hrest env fl up s_4.fr s_4.os f' s_5 hF h7 A ρ_2 t_2 _ _ rm a F_2 ?_;have q':=(q.after ((gk.trans ZI).trans kB)).P0 hne;induction f' using Fl.casesOn with
  |exc j=>exact absurd rfl (hne j)
  |next=>exact λρ_3 t_3 tZ kC F_3 hfl=>by subst hfl;exact t7 (q' ρ_3 t_3 .next kC F_3 rfl)
  |brk=>exact λρ_3 t_3 tZ kC F_3 hfl=>by subst hfl;exact q' ρ_3 t_3 .brk kC F_3 rfl
  |cont=>exact λρ_3 t_3 tZ kC F_3 hfl=>by subst hfl;exact q' ρ_3 t_3 .cont kC F_3 rfl
  |ret v=>exact λρ_3 t_3 tZ kC F_3 hfl=>by refine aR hfl λz q'12 hz=>?_;obtain rfl:=q'12;exact q' ρ_3 t_3 _ kC F_3 ⟨z,rfl,hz⟩
 |none=>
  rw [hk] at e4;refine bQ e4 λu s_3 h5 e5=>?_;refine iz (i5 h5) λhlt hso hnf q'13=>?_;obtain rfl:=q'13;refine bQ e5 λf' s_5 h8 e7=>?_;refine bQ h8 λtv s_4 h6 e6=>?_;refine xB e6 λhT h7=>?_;obtain rfl:=TM hT;refine cT (wO e7) λq'14 q'15 hne=>?_;obtain rfl:=q'14;obtain rfl:=q'15;refine next_end hh gi gl (by have:=hys.none hk;rw [cS] at this;exact this) λh' e oe vs oi hx' hi' hen he' hec hed Xq=>?_;have hkp:∀b ob,b≠ia->t_1.heap.get? b=af ob->h'.get? b=af ob:=λb ob hb EC=>hx' b ob hb EC;obtain ⟨ZI,FS⟩:=F_1.Dy (s':={t_1 with heap:=h'}) (o:=.dead) (r:=oi) hnf ZH hkp hi' ((Heap.get?_some_iff.mp hi').2) rfl rfl rfl;have U1:A.frames=af (env::outer):=by rw [a,hfl]
  have U2:h'.FunFrames B.h₀ (env::outer):=by refine (hfl).symm▸ ?_;exact FS.yS
  have st2:=gk.trans ZI;have ES:s.heap.get? e=ae:=by
   induction qq:s.heap.get? e using aw with
   |none=>rfl
   |some o=>obtain ⟨o',h''⟩:=gk.live _ _ qq;rw [hen] at h'';injection h''
  refine hE _ _ ?_;refine A0 (s:={t_1 with heap:=h'}) U1 U2 hF.fr he' hed Xq λh_2 T oT ts hN Ss Lx zL Gr Ln hz=>?_;have hd_2:(oe.mapFields (·.setIfInBounds 1 (.ref T))).data= .fields (vs.setIfInBounds 1 (.ref T)):=gY hed _;have Gq:1<vs.size:=(dM.mp Xq).1;refine pd (s:={t_1 with heap:=h_2}) zL hd_2 (by simp [Gq]) Gr Ln hz λh_3 Xr Xs Gs C6 Io h33 ON=>?_;have frT:s.heap.get? T=ae:=by
   induction qq:s.heap.get? T using aw with
   |none=>rfl
   |some o=>obtain ⟨o',h''⟩:=st2.live _ _ qq;rw [Ss] at h'';injection h''
  have N1:jr [e,T] up.kD h' h_2:=hN.mono (by first|exact all1 (by first|exact .head _|exact .tail _ (.head _)|exact .tail _ (.tail _ (.head _)))|exact all2 (by first|exact .head _|exact .tail _ (.head _)|exact .tail _ (.tail _ (.head _))) (by first|exact .head _|exact .tail _ (.head _)|exact .tail _ (.tail _ (.head _)))) λb hb=>FS.ML b (by refine hfl▸ ?_;exact hb);have N2:jr [e,T] up.kD h_2 h_3:=Gs.mono (by first|exact all1 (by first|exact .head _|exact .tail _ (.head _)|exact .tail _ (.tail _ (.head _)))|exact all2 (by first|exact .head _|exact .tail _ (.head _)|exact .tail _ (.tail _ (.head _))) (by first|exact .head _|exact .tail _ (.head _)|exact .tail _ (.tail _ (.head _)))) λb hb=>nomatch hb
  have hide:=FS.yT (a:=T) Ss;have JM:=F_1.yT (a:=e) hen;have hS:∀b∈ [e,T],b∉own env/\B.h₀.get? b=ae/\b∉up.kD:=all2 ⟨JM.own,JM.base,JM.fr⟩ ⟨hide.own,hide.base,hide.fr⟩;have OO:∀b∈ [e,T],b∉ρ_1:=all2 JM.ρ hide.ρ;have Xu:∀b∈ [e,T],s.heap.get? b=ae:=all2 (by assumption) (by assumption);have touched:∀{hh:pQ},jr [e,T] up.kD h' hh->Step ρ (wr up env) s ρ_1 {t_1 with heap:=hh}/\Fits B ρ_1 _ _ up env fl {t_1 with heap:=hh}:=λN=>
   ⟨st2.xN Xu N,FS.xN N hS λi o b _ hb hm=>absurd (bN hb) (OO b hm)⟩
  obtain ⟨st3,F3⟩:=touched (N1.trans N2);have ye:h_3.get? e=af (oe.mapFields (·.setIfInBounds 1 (.ref T))):=Gs.keep _ _ (by simp;exact λhq=>Lx hq.symm) (λhq=>nomatch hq) zL;refine wpAny_handleBy_builtin (X:= "StopIteration") (T:= "StopIteration") (b:=true) MQ P8 MR ?_;have ZJ:cU c (.Name tn tp) up.sc up.vals up.fz ⟨s_2.fr,s_2.os.set it .dead⟩=af (.type "StopIteration",s_4):=by dsimp only [cU];exact h6
  refine hname env fl up _ _ _ s_4 ZJ _ ρ_1 {t_1 with heap:=h_3} _ _ rm.marked a F3 λρ_4 t_4 tyv mz F_4 hty=>?_;subst hty;have Sv:∀b o,b∈ [e,T]->h_3.get? b=af o->t_4.heap.get? b=af o:=λb o hb EC=>mz.keep b o EC (.inl (OO b hb)) λhm=>(aG.mp hm).elim (hS b hb).1 (hS b hb).2.2;have Sw:=Sv e _ (by exact fg) ye;have Xv:=Sv T _ (by simp) C6;refine ⟨rfl,⟨_,Sw,(md _ _).trans hec⟩,?_⟩;simp only [if_true];refine pd Sw hd_2 (by simp [Gq]) Xv Io (by rw [ON];exact hz) λh_5 Xw Xx JN Xy U3 h35 Xz=>?_;have N5:jr [e,T] up.kD t_4.heap h_5:=JN.mono (by first|exact all1 (by first|exact .head _|exact .tail _ (.head _)|exact .tail _ (.tail _ (.head _)))|exact all2 (by first|exact .head _|exact .tail _ (.head _)|exact .tail _ (.tail _ (.head _))) (by first|exact .head _|exact .tail _ (.head _)|exact .tail _ (.tail _ (.head _)))) λb hb=>nomatch hb
  have Rv:∀b∈ [e,T],b∉ρ_4:=λb hb hm=>by
   refine aR mz.ext λm em hm'=>?_;rw [em] at hm;rcases aG.mp hm with hm|hm
   ·exact OO b hb hm
   ·exact all2 (P:=λb=>h_3.get? b=ae->False) (λh=>V4 ye h) (λh=>V4 C6 h) b hb (hm' _ hm)
  have ZK:Step ρ (wr up env) s ρ_4 {t_4 with heap:=h_5}:=(st3.trans mz).xN Xu N5;have F5:Fits B ρ_4 _ _ up env fl {t_4 with heap:=h_5}:=F_4.xN N5 hS λi o b _ hb hm=>absurd (bN hb) (Rv b hm);refine ZG env fl up _ _ f' s_5 hF h7 _ ρ_4 _ _ _ rm.marked a F5 ?_;have q':=(q.after ZK).P0 hne;induction f' using Fl.casesOn with
  |exc j=>exact absurd rfl (hne j)
  |next=>exact q'
  |brk=>exact q'
  |cont=>exact q'
  |ret v=>exact q'
end
section
variable{k:Lv}
theorem MS{o:au}{ap:Pos}{w:V}{m:Me}{r:CR}{s_2 s_3 s_4:eP}(H:yO B c k)(hc:kF B c k)(ho:dP B c k o)(hb1:baseOk o=ao)(hb2:ap.endLine=pos.line)
  (h1:cU c o up.sc up.vals up.fz ⟨fr,σ⟩=af (w,s_2)) (h2:ew c w name up.fz s_2=af (m,s_3)) (h3:eJ c w m [] up.fz s_3=af (r,s_4)) (rm:kE A k) (a:A.frames=af fl) (F:Fits B ρ σ fr up env fl s)
  (q:KR B env fl up ρ s s_4.fr s_4.os r Q E):wpAny (model B.pr B.w) A (eval (.Call (.Attribute o name ap) [] [] pos) env) Q E s:=by
 show wpAny _ A (nq o name env (eval o env)>>=λov=>lh ap.atName>>=λ_=>pZ o name ap pos env ov (0+0) (ka pos (fG [] env)) []) Q E s;refine (sZ hb1)▸ ?_;refine aB (ho env fl up fr σ w s_2 h1 A ρ s _ E rm a F λρ_1 t_1 vo st F_1 Il=>aB (eC ?_));dsimp only [pZ];rw [show lZ (0+0) (ka pos (fG [] env)) []=ao from rfl];refine aB (dX ?_);show wpAny _ A (mS vo name _) _ E t_1;have Rr:s_3=⟨s_2.fr,s_2.os⟩:=(xG (A:=A) (E:=E) (pl:=aA ao) (Q:=λ_ _=>True) F_1 H.n9 h2 Il trivial).1;subst Rr;refine (xG (A:=A) (E:=E) F_1 H.n9 h2 Il ?_).2;refine aB (nO (a:=pos) (by dsimp only [wy];(exact (if_pos (by rw [hb2];simp)))) ?_);have q_1:KR B env fl up ρ_1 t_1 s_4.fr s_4.os r Q E:=by
  induction r using CR.casesOn with
  |ret v=>exact λρ' s' x st' F' hx=>q ρ' s' x (st.trans st') F' hx
  |exc i=>
   intro ρ' s' x st' F' hx hfl;refine q ρ' s' x (st.trans st') F' hx ?_;refine gH hfl λe T oe vs r'3=>?_;refine eu r'3 λoT ts g1 g2 g3 g4=>?_;have fresh:∀b,t_1.heap.get? b=ae->s.heap.get? b=ae:=λb hb=>by
    induction qq:s.heap.get? b using aw with
    |none=>rfl
    |some o=>obtain ⟨o',h'⟩:=st.live _ _ qq;rw [hb] at h';exact nn h'
   exact ⟨e,T,oe,vs,oT,ts,g1,fresh e g2,fresh T g3,g4⟩
 induction m using Me.casesOn with
 |fn f=>
  have h5:dN c (.top f) [w] up.fz ⟨s_2.fr,s_2.os⟩=af (r,s_4):=h3;refine jZ (P:=B.K.In) (uL (ρ':=ρ_1) H.n9 h5 rfl) (rI ⟨F_1.isIn,?_⟩);exact AW H hc h5 rm a F_1 rfl ⟨Il,trivial⟩ q_1
 |bi id=>
  have GI:(if c.hd||id= "list.pop" then (do return Ey (←fh c id w [])) else fail:M CR) up.fz ⟨s_2.fr,s_2.os⟩=af (r,s_4):=h3;by_cases hz:(c.hd||id= "list.pop")=ao
  ·rw [if_pos hz] at GI;refine bQ GI λu s_6 h6 e6=>?_;obtain ⟨rfl,rfl⟩:=aK e6;refine jZ (P:=B.K.In) (λh _=>AU h) (rI ⟨F_1.isIn,?_⟩);exact CL H (by simpa using hz) rm F_1 h6 Il trivial q_1
  ·rw [if_neg hz] at GI;exact nn GI
theorem Fits.forget(F:Fits B ρ σ fr up env fl s)(hs:il env.locals s.heap h')(hn:h'.Ns env.locals m):
  Step ρ (wr up env) s ρ {s with heap:=h'}/\Fits B ρ σ [] up env fl {s with heap:=h'}:=by
 have hL:env.locals∈own env:=fg ..;refine gb (id hn) λon _ _ Zi _=>?_;have st:Step ρ (wr up env) s ρ {s with heap:=h'}:=step_same (tk:=s.toks) hs Zi (cf _ hL) hL;refine aR F.mw.loc λm₀ _ XA=>?_;refine ⟨st,F.step st (AH F.rep hs (F.rO _ hL) (F.oY _ hL)) ⟨⟨m,hn,λy hy=>⟨(XA y hy).1,trivial⟩⟩,λy hy=>?_,λy hy=>?_,F.mw.OZ⟩⟩
 ·refine dZ (F.mw.G9 y hy) λk' r'4=>?_;refine b8 r'4 λc o v' h1 h2 h3 h4=>?_;exact ⟨k',c,o,v',h1,(hs.2 c λq=>F.mG (q▸mem_lookup h1)).trans h2,h3,trivial⟩
 ·refine dZ (F.mw.ES y hy) λk' r'5=>?_;refine b8 r'5 λc o v' h1 h2 h3 h4=>?_;exact ⟨k',c,o,v',h1,(hs.2 c λq=>F.mG (q▸mem_lookup h1)).trans h2,h3,h4⟩
theorem KG{o:au}{tn n:Str}{ap cp rp tp rp' hp:Pos}{w:V}{m:Me}{r:CR}{s_2 s_3 s_4:eP}(H:yO B c k)(X:xO B)(hc:kF B c k)(ho:dP B c k o)(hname:dP B c ⟨k.n,bc⟩ (.Name tn tp))(he:dP B {c with hd:=bc} ⟨k.n,bc⟩ e)
  {env:Env}{fl:List Env}{up:Up}{fr:eB}{σ:List O}{fo:Fl}{s₁:eP}(hF:I4 env fl up) (hb1:baseOk o=ao) (hb2:ap.endLine=cp.line) (hloc:up.sc.names.lookup n=af .local)
  (h1:cU c o up.sc up.vals up.fz ⟨fr,σ⟩=af (w,s_2)) (h2:ew c w name up.fz s_2=af (m,s_3)) (h3:eJ c w m [] up.fz s_3=af (r,s_4))
  (e3:z7 c (setC up.sc n) (zv c up.sc up.vals tn) (cU {c with hd:=bc} e up.sc up.vals) r up.fz s_4=af (fo,s₁))
  {A:iW}{ρ:List bj}{s:aM}{Q:Flow->aM->Prop}{E:ay->aM->Prop}(rm:kE A k) (a:A.frames=af fl) (F:Fits B ρ σ fr up env fl s) (q:MH B env fl up ρ s s₁.fr s₁.os fo Q E):
  wpAny (model B.pr B.w) A (exec (.Try [.Return (af (.Call (.Attribute o name ap) [] [] cp)) rp] [.ExceptHandler (af (.Name tn tp)) (af n) [.Return (af e) rp'] hp] [] [] pos) env) Q E s:=by
 obtain ⟨outer,hfl⟩:=hF.hd;refine wpAny_Try_except (mU (qP ?_));refine MS H hc ho hb1 hb2 h1 h2 h3 rm a F ?_;induction r using CR.casesOn with
 |ret v=>
  obtain ⟨rfl,rfl⟩:=aK e3;exact λρ' s' x st F' hx=>q ρ' s' _ st F' ⟨x,rfl,hx⟩
 |exc i=>
  refine L9 e3 λoi GI e4=>?_;clear e3;refine bZ e4 λCt w1 e5=>?_;clear e4;obtain rfl:=RQ w1;obtain ⟨C,ti⟩:=Ct;refine bQ e5 λtv s_6 h5 e6=>?_;clear e5;refine bZ e6 λC' w2 e5=>?_;clear e6;obtain rfl:=IT w2;refine xB e5 λhCC e4=>?_;clear e5;obtain ⟨rfl,hCe⟩:=hCC;have ZC:C∈B.ib:=by refine (H.n9.ib).symm▸ ?_;exact hCe
  refine bQ e4 λu s_7 h6 e6=>?_;refine bQ e6 λv s_8 h7 e7=>?_;obtain ⟨⟩:=e7;intro ρ_1 t_1 x gk F_1 hx ZL;refine gH ZL λea T_0 oe vs r'7=>?_;refine iA r'7 λo_0 JL q'6 ES ZM Rw U4 r'8=>?_;refine iQ r'8 λhea hed Xq XB U5 h30=>?_;obtain rfl:=q'6;refine aR hx λea' hei OL=>?_;(injection OL with OL;subst OL);have U1:A.frames=af (env::outer):=by rw [a,hfl]
  have U2:t_1.heap.FunFrames B.h₀ (env::outer):=by refine (hfl).symm▸ ?_;exact F_1.yS
  refine HA U1 U2 hF.fr hea hed Xq U4 XB U5 h30 λh_2 T oT ts hN Ss Lx zL Gr Ln hz=>?_;have hd_2:(oe.mapFields (·.setIfInBounds 1 (.ref T))).data= .fields (vs.setIfInBounds 1 (.ref T)):=gY hed _;have Gq:1<vs.size:=(dM.mp Xq).1;refine pd (s:={t_1 with heap:=h_2}) zL hd_2 (by simp [Gq]) Gr Ln hz λh_3 Xr Xs Gs C6 Io h33 ON=>?_;have frT:s.heap.get? T=ae:=by
   induction qq:s.heap.get? T using aw with
   |none=>rfl
   |some o=>obtain ⟨o',h''⟩:=gk.live _ _ qq;rw [Ss] at h'';exact nn h''
  have N1:jr [ea,T_0,T] up.kD t_1.heap h_2:=hN.mono (by first|exact all2 (by first|exact .head _|exact .tail _ (.head _)|exact .tail _ (.tail _ (.head _))) (by first|exact .head _|exact .tail _ (.head _)|exact .tail _ (.tail _ (.head _)))|exact all1 (by first|exact .head _|exact .tail _ (.head _)|exact .tail _ (.tail _ (.head _)))) λb hb=>F_1.ML b (by refine hfl▸ ?_;exact hb);have N2:jr [ea,T_0,T] up.kD h_2 h_3:=Gs.mono (by first|exact all1 (by first|exact .head _|exact .tail _ (.head _)|exact .tail _ (.tail _ (.head _)))|exact all2 (by first|exact .head _|exact .tail _ (.head _)|exact .tail _ (.tail _ (.head _))) (by first|exact .head _|exact .tail _ (.head _)|exact .tail _ (.tail _ (.head _)))) λb hb=>nomatch hb
  have ZN:=F_1.yT (a:=T) Ss;have Xu:∀b∈ [ea,T_0,T],s.heap.get? b=ae:=O9 (by assumption) (by assumption) (by assumption);have hS:∀b∈ [ea,T_0,T],b∉own env/\B.h₀.get? b=ae/\b∉up.kD:=λb hb=>by
   have:=F.yT (Xu b hb);exact ⟨this.own,this.base,this.fr⟩
  have ye:h_3.get? ea=af (oe.mapFields (·.setIfInBounds 1 (.ref T))):=Gs.keep _ _ (by simp;exact λhq=>Lx hq.symm) (λhq=>nomatch hq) zL;refine ck (F_1.rep.obj i _ GI) λeb re k1 k2 r'9=>?_;refine eu r'9 λta fs k3 k4 k5 k6=>?_;rw [hei] at k1;(injection k1 with k1;subst k1);rw [hea] at k2;(injection k2 with k2;subst k2);rw [hed] at k5;(injection k5 with k5;subst k5);have ZO:∀{ρ':List bj},Ext ρ_1 ρ'->ou B.pr B.w ρ' (.exc C ti) (oe.mapFields (·.setIfInBounds 1 (.ref T))):=λx=>⟨ta,_,x.at k3,(md _ _).trans k4,hd_2,by refine (mu (by decide)).trans ?_;exact k6⟩;have OO:∀b∈ [ea,T_0,T],∀(j:Nat),ρ_1[j]? =af b->j=i/\b=ea:=λb hb j hj=>by
   have hlt:j<ρ_1.length:=(cP.mp hj).1;exact O9 (P:=λb=>ρ_1[j]? =af b->j=i/\b=ea) (λhj=>⟨(ip hlt F_1.rep.nd).mp (hj.trans hei.symm),rfl⟩) (λhj=>absurd (bN hj) Rw) (λhj=>absurd (bN hj) ZN.ρ) b hb hj
  have touched:∀{hh:pQ},jr [ea,T_0,T] up.kD t_1.heap hh->hh.get? ea=af (oe.mapFields (·.setIfInBounds 1 (.ref T)))->Step ρ (wr up env) s ρ_1 {t_1 with heap:=hh}/\Fits B ρ_1 _ _ up env fl {t_1 with heap:=hh}:=λ{hh} N hob=>
   ⟨gk.xN Xu N,F_1.xN N hS λj o b hj hb hm=>by
    obtain ⟨rfl,rfl⟩:=OO b hm j hb;rw [GI] at hj;(injection hj with hj;subst hj);exact ⟨_,hob,ZO (Ext.refl _)⟩⟩
  obtain ⟨st3,F3⟩:=touched (N1.trans N2) ye;refine gH (X C ZC) λnm qn N bs r'10=>?_;refine gH r'10 λbm hdct sn sub r'11=>?_;refine gH r'11 λab col dd k0 r'12=>?_;refine gH r'12 λk1' k2' k3' k5' r'13=>?_;refine sP r'13 λnewId initId Bn mN ZD Fb hNs hni=>?_;refine wpAny_handleBy_cons (codeAny_handlers_test ?_) (by intro q;injection q);have ZP:=CD (env:=env) (fl:=fl) (pos:=tp) (A:=A.mark (af (.ref ea))) (E:=tJ (model B.pr B.w) (A.mark (af (.ref ea))) env λx s₁=>cameBackBy (model B.pr B.w) A env E x s₁) H.n9.K F3 h5;obtain ⟨hs6,ZP⟩:=ZP;subst hs6;refine ZP λtyv hty=>?_;subst hty;have ZQ:h_3.get? C=af (excClassObj nm qn C N bs bm hdct sn sub ab col dd k0 k1' k2' k3' k5' newId):=F3.base _ _ ZD;obtain ⟨hp_1,gg,dr,tk,os⟩:=t_1;refine wpAny_excMatches_sub_self ZQ ye ((md _ _).trans k4) Fb.hasBase ?_;dsimp only;refine (if_pos rfl)▸ ?_;dsimp only;refine codeAny_handlers_suite_as ?_;refine pd (s:=⟨h_3,gg,dr,tk,os⟩) ye hd_2 (by simp [Gq]) C6 Io (by rw [ON];exact hz) λh_5 Xw Xx JN Xy U3 h35 Xz=>?_;have N5:jr [ea,T_0,T] up.kD h_3 h_5:=JN.mono (by first|exact all1 (by first|exact .head _|exact .tail _ (.head _)|exact .tail _ (.tail _ (.head _)))|exact all2 (by first|exact .head _|exact .tail _ (.head _)|exact .tail _ (.tail _ (.head _))) (by first|exact .head _|exact .tail _ (.head _)|exact .tail _ (.tail _ (.head _)))) λb hb=>nomatch hb
  have XC:h_5.get? ea=af (oe.mapFields (·.setIfInBounds 1 (.ref T))):=JN.keep _ _ (by simp;exact λhq=>Lx hq.symm) (λhq=>nomatch hq) ye;obtain ⟨ZK,F5⟩:=touched ((N1.trans N2).trans N5) XC;refine o9 (k:=⟨k.n,bc⟩) h6 rm.marked a F5 ⟨ea,hei,rfl⟩ λρ_6 t_6 XD F_6=>?_;refine mU (qP ?_);refine he env fl up s_7.fr s_7.os v s_8 h7 _ ρ_6 t_6 _ _ rm.marked a F_6 λρ_7 t_7 y XE F_7 hy=>?_;refine aR F_7.mw.loc λm_7 XF XG=>?_;have hlk:env.kindOf n=af .local:=(XG n hloc).1;have hkc:(env.scope.kind== .class||(env.scope.kind== .module&&env.locals != env.globals))=bc:=by refine F_7.ok.kind▸ ?_;rfl
  refine aB (wpAny_bindName (uc hlk XF (λh_8 XH XI=>?_) hkc));dsimp only [unbindBehindTheSuite];refine wpAny_onRaise (wpAny_unbindName_local (v:=.none) hlk XH (by simp) hkc λh_9 uu XJ XK=>?_);obtain ⟨st8,F8⟩:=F_7.forget (XI.trans XK) XJ;have st9:Step ρ_7 (wr up env) t_7 ρ_7 {t_7 with heap:=h_9,toks:=t_7.toks+1}:=st8.trans Step.toks;exact q ρ_7 _ _ (((ZK.trans XD).trans XE).trans st9) (F8.toks _) ⟨y,rfl,hy⟩
end
structure All(B:lH)(c:Cx)(k:Lv):Prop where
 Fo:yO B c k
 call:kF B c k
theorem All.YR{k:Lv}(h:All B c k):All B {c with hd:=bc} ⟨k.n,bc⟩:=
 ⟨⟨⟨h.Fo.n9.K,h.Fo.n9.aj,h.Fo.n9.ib⟩,λh=>by injection h⟩,λenv fl up fr σ a as r os' e A ρ s Q E vals rm fa hh F hv q=>
  h.call env fl up fr σ a as r os' e A ρ s Q E vals ⟨rm.depth,rm.units,λ_=>hh⟩ fa hh F hv q⟩
theorem DF{k:Lv}{b:List fV}(h:∀st∈b,uO B c k st):lL B c k b:=by
 induction b with
 |nil=>exact P4
 |cons st r ih=>exact MJ (h st (fg ..)) (ih λx hx=>h x (i8 _ hx))
theorem P9{k:Lv}{st:fV}(h:∀sc up z s,CA c sc up st z s=ae):uO B c k st:=λenv fl up fr σ f s₁ hF ev=>nn ((h ..).symm.trans ev)
theorem TN{k:Lv}{b:List fV}{hs:List ExceptHandler}{o fb:List fV}(X:xO B)(H:All B c k)(hb:∀a r,b=a::r->lL B c k r)(hh:∀t n b' p,hs= [.ExceptHandler t n b' p]->lL B {c with hd:=bc} ⟨k.n,bc⟩ b'):uO B c k (.Try b hs o fb pos):=λenv fl up fr σ f s₁ hF ev A ρ s Q E rm a F q=>by
 have EV:∀x,dP B c k x:=uN H.Fo H.call;refine Ta ev λhz JI=>?_;clear ev;rw [ez,ez,not_or,not_or] at hz;obtain ⟨⟨hz1,hz2⟩,GG⟩:=hz;have BG:c.hd=ao:=by simpa using hz1
 have ZR:∀{l:List fV},¬(!l.isEmpty)=ao->l= []:=λ{l} h=>by
  induction l using aC with
  |nil=>rfl
  |cons _ _=>exact absurd rfl h
 have ho:=ZR hz2;have hf:=ZR GG;refine nE JI λh hw Rt=>?_;clear JI;refine eW hw λh0 hw1 Yw=>?_;refine An (Th Yw) λtp a0 r'=>?_;refine gc r' λb0 hp hw3 ZS=>?_;have hhs:=AG hw1;rw [hw3] at hhs;obtain ⟨tn,nm,hb0⟩:=h;have ZS:hb0=a0::b0:=ZS;subst ho;subst hf;subst hhs;subst ZS;clear hz1 hz2 GG ZR hw hw1 Yw hw3;have ZG:=hh _ _ _ _ rfl;clear hh;induction nm using aw with
 |none=>
  refine nE Rt λxf XM Yx=>?_;clear Rt;induction b using aC with
  |nil=>exact nn XM
  |cons a r=>
   refine dZ (JX (a:=a) XM) λhna r'=>?_;refine sO r' λxp cp ap he=>?_;subst he;refine bQ Yx λw s_2 h1 e1=>?_;exact HE H.Fo (EV _) (hb _ _ rfl) (DB H.Fo.n9) ZG hF BG hna h1 e1 rm a F q
 |some n=>
  refine Ta Rt λhl Yx=>?_;clear Rt;refine nE Yx λom XM ev4=>?_;clear Yx;refine nE ev4 λe hw6 ev5=>?_;clear ev4;refine eW XM λa9 hw7 hw8=>?_;refine jo (JY hw8) λap cp rp he hb1 hb2=>?_;refine eW hw6 λa' hw9 XN=>?_;refine lG (RT XN) λrp' he'=>?_;have hl1:=AG hw7;have hl2:a0::b0= [a']:=AG hw9;rw [he] at hl1;rw [he'] at hl2;subst hl1;injection hl2 with q1 q2
  subst q1;subst q2;clear XM hw6 hw7 hw8 hw9 XN hb;refine bQ ev5 λw s_2 h1 e1=>?_;clear ev5;refine bQ e1 λm s_3 h2 e2=>?_;clear e1;refine bQ e2 λr s_4 h3 e3=>?_;clear e2;exact KG H.Fo X H.call (EV _) (DB H.Fo.n9) (uN H.YR.Fo H.YR.call _) hF hb1 (beq_iff_eq.mp hb2) (by simpa using hl) h1 h2 h3 e3 rm a F q
theorem TO{k:Lv}(X:xO B)(H:All B c k)(st:fV)(IH:∀b:List fV,sizeOf b<sizeOf st->lL B c k b/\lL B {c with hd:=bc} ⟨k.n,bc⟩ b):uO B c k st:=by
 have EV:∀x,dP B c k x:=uN H.Fo H.call;have TS:∀x,o8 B c k x:=MG H.Fo H.call;induction st using pT with
 |Expr e p=>exact P2 (EV _)
 |Break p=>exact MI
 |Continue p=>exact Fi
 |Return v p=>exact TH EV
 |Assign ts e p=>exact Kv H.Fo EV TS
 |AugAssign t op e p=>exact TF H.Fo.n9 EV
 |Delete ts p=>exact TG H.Fo.n9 EV
 |If t b o p=>exact V1 (TS _) (IH b (PR (qt ..))).1 (IH o (O0 (qt ..))).1
 |While t b o p=>exact MK (TS _) (IH b (PR (n6 ..))).1 (IH o (O0 (n6 ..))).1
 |For t e b o p=>exact TJ H.Fo (EV _) (IH b (O0 ((PySem.Stmt.For.sizeOf_spec t e b o p).trans (dC ..)))).1
 |Try b hs o fb p=>
  have sp:=PySem.Stmt.Try.sizeOf_spec b hs o fb p;refine TN X H (λa r e=>(IH r (aD ?_ (RY (sp.trans (dC ..))))).1) λt n b' q e=>(IH b' (aD ?_ (PR (sp.trans (dC ..))))).2
  ·rw [e];exact w22 (ug ..)
  ·rw [e];exact aD (O0 (rJ t n b' q)) (V0 (ug ..))
 |Raise x cs p=>exact MP H.Fo X (λ_ _=>EV _) (Hw H.Fo H.call)
 |_=>exact P9 λ_ _ _ _=>rfl
theorem HG(X:xO B):∀(n:Nat) (c:Cx) (k:Lv),All B c k->∀st:fV,sizeOf st<n->uO B c k st:=by
 intro n;induction n with
 |zero=>intro c k _ st h;exact absurd h (gD _)
 |succ n ih=>
  intro c k H st hn;have lt:∀{b:List fV}{x:fV},sizeOf b<sizeOf st->x∈b->sizeOf x<n:=λhb hx=>ag (aD (uf hx) hb) (dF hn);exact TO X H st λb hb=>⟨DF λx hx=>ih c k H x (lt hb hx),DF λx hx=>ih _ _ H.YR x (lt hb hx)⟩
theorem CQ(X:xO B){k:Lv}(H:All B c k)(b:List fV):lL B c k b:=DF λst _=>HG X _ c k H st (bU _)
theorem HH(X:xO B){fuel:Nat}:∀(n:Nat) (hd:Bool),kF B ⟨B.K,B.aj,callC B.K B.aj B.ib fuel n,fuel,hd,B.ib⟩ ⟨n,hd⟩:=by
 intro n;induction n with
 |zero=>intro hd env fl up fr σ a as r os' e;exact nn e
 |succ n ih=>
  intro hd;have zc:eh ⟨B.K,B.aj,callC B.K B.aj B.ib fuel n,fuel,ao,B.ib⟩ B:=⟨rfl,rfl,rfl⟩;exact P7 rfl (λb=>CQ X ⟨⟨zc,λ_=>rfl⟩,ih ao⟩ b) zc
theorem TP(B:lH)(X:xO B){fuel:Nat}{fa:bj}{t:ay}{d:Option bj}{fd:kR}(hK:B.K.lookup fa=af ⟨t,d,.func fd,sl⟩){Xa:bj}{b:Bool}
  (hB:∀b o,B.h₀.get? b=af o->s.heap.get? b=af o) (hX:s.heap.Ns Xa m) (hX0:B.h₀.get? Xa=ae) (hg:s.gens= #[]) (hv:bM [] as vals) (hn:2*n+310<recursionLimit) (hn':20*n+300<cLine)
  (e:callC B.K B.aj B.ib fuel (n+1) (.top fa) as [] []=af (.ret (.bool b),os'))
  (q:∀s',(∀b o,s.heap.get? b=af o->s'.heap.get? b=af o)->s'.gens=s.gens->s'.os=s.os->Q (.bool b) s'):wpAny (model B.pr B.w) callerA (call (.ref fa) vals) Q E s:=by
 let sc:Scope:={fd.scope with names:=[],kind:=.function}
 let env:Env:={scope:=sc,locals:=Xa,globals:=gm,cells:=[],qual:=fd.qualname,func:=ae,code:=.none,frame:=ae,builtins:=builtinsNs}
 let up:Up:=⟨sc,[],[],[]⟩
 refine gb (id hX) λoX esX nX gX _=>?_;have F:Fits B [] [] [] up env [] s:=by
  refine ⟨⟨rfl,dy,(λa h=>nomatch h),(λi o h=>by trivial),hB⟩,⟨⟨m,hX,λx h=>by exact nn h⟩,(λx h=>by exact nn h),(λx h=>by exact nn h),λx h=>by exact nn h⟩,⟨rfl,rfl,rfl⟩,(λa _ h=>nomatch h),λa ha=>?_,λa ha=>?_,(λh=>nomatch h),(λx y c h=>by exact nn h),hg,(λe h=>nomatch h),λL h=>nomatch h⟩
  ·refine (aL.mp ha)▸ ?_;exact hX0
  ·refine (aL.mp ha)▸ ?_;exact ⟨oX,gX⟩
 have e':(match fdOf (B.K.lookup fa) with
  |some fd=>LX ⟨B.K,B.aj,callC B.K B.aj B.ib fuel n,fuel,ao,B.ib⟩ fd as [] []
  |none=>(Pe (B.K.lookup fa)).bind λcd=>IP ⟨B.K,B.aj,callC B.K B.aj B.ib fuel n,fuel,ao,B.ib⟩ fa cd as [] [])=af (.ret (.bool b),os'):=e
 rw [hK] at e';have zc:eh ⟨B.K,B.aj,callC B.K B.aj B.ib fuel n,fuel,ao,B.ib⟩ B:=⟨rfl,rfl,rfl⟩;refine pU (HB (n:=n) (up:=up) zc (λb=>CQ X ⟨⟨zc,λ_=>rfl⟩,HH X n ao⟩ b) hK e' ?_ ?_ rfl rfl F hv ?_)
 ·show 1+claimMargin+(2*n+1)<recursionLimit;have:claimMargin=300:=rfl;exact this▸aV (ai (ar (cD 301 _)) (bF (ak rfl:302<=310) _)) hn
 ·show 4+20*n+210<cLine;exact aV (ai (ar (congrArg (· +210) (cD 4 _))) (bF (ak rfl:214<=300) _)) hn'
 ·intro ρ' s' x st stC F' hx;subst hx;exact q s' (λb o h=>stC.keep b o h (.inl λh=>nomatch h) λh=>nomatch h) stC.gens stC.os
theorem has_int{R:BO}{d:WData}(h:tM R d .int=ao):∃i,d= .int i:=by
 induction d using uh<;>first|exact ⟨_,rfl⟩|(dsimp only [tM] at h;injection h)
theorem Fp{R:BO}:∀{xs:List WData},n7 R xs .int=ao->∃ns:List Int,xs=ns.map .int
 | [],_=>⟨[],rfl⟩
 |x::xs,h=>by
  dsimp only [n7] at h;rw [aS] at h;obtain ⟨i,rfl⟩:=has_int h.1;obtain ⟨ns,rfl⟩:=Fp h.2;exact ⟨i::ns,rfl⟩
theorem has_list{R:BO}{d:WData}(h:tM R d (.list .int)=ao):∃ns:List Int,d= .list (ns.map .int):=by
 induction d using uh with
 |list xs=>
  dsimp only [tM] at h;have h':n7 R xs .int=ao:=by
   have:((WShape.list WShape.int).arms.any λa=>match a with
    | .list e=>n7 R xs e
    | .any=>BP bc xs
    | .anyF=>BP ao xs
    | .none| .bool| .int| .str| .tuples _| .tuple _| .dict _ _| .oneOf _| .float| .bytes| .bytearray| .set _| .frozenset _| .obj _=>bc)=ao:=h
   dsimp only [WShape.arms,rB,List.any_nil] at this;rw [Cr] at this;exact this
  obtain ⟨ns,rfl⟩:=Fp h';exact ⟨ns,rfl⟩
 |_=>dsimp only [tM] at h;injection h
theorem MT{R:BO}{args:List WData}(h:wB R args [.list .int]=ao):∃ns:List Int,args= [.list (ns.map .int)]:=by
 induction args using aC with
 |nil=>injection h
 |cons x xs=>
  dsimp only [wB] at h;simp only [aS] at h;obtain ⟨ns,rfl⟩:=has_list h.1;induction xs using aC with
  |nil=>exact ⟨ns,rfl⟩
  |cons y ys=>have h2:=h.2;dsimp only [wB] at h2;injection h2
theorem KH:∀{ns:List Int}{vs:List ay},WellAll P h vs (ns.map .int)->bM [] (ns.map bD) vs:=by
 intro ns;induction ns with
 |nil=>intro vs W;obtain ⟨⟩:=W;trivial
 |cons n ns ih=>
  intro vs W;cases W with
  |cons w r=>
   cases w with
   |int i t=>exact ⟨⟨t,rfl⟩,ih r⟩
theorem KJ{ns:List Int}(W:WellAll P h vals [.list (ns.map .int)]):∃l vs,vals= [.ref l]/\h.get? l=af {cls:=.type "list",data:=.seq vs.toArray}/\bM [] (ns.map bD) vs:=by
 cases W with
 |cons w r=>
  obtain ⟨⟩:=r;cases w with
  |list ho hw=>exact ⟨_,_,rfl,ho,KH hw⟩
noncomputable abbrev pw:qL:=PySem.Challenge.pw_nb0314_02
noncomputable def st(i:Nat):fV:=(pw.main.body[i]?).getD (.Pass ⟨0,0,0,0⟩)
noncomputable def V5:fV->List fV
 | .ClassDef _ _ _ b _ _ _ _ _ _ _=>b
 |_=>[]
noncomputable def stC(i j:Nat):fV:=((V5 (st i))[j]?).getD (.Pass ⟨0,0,0,0⟩)
noncomputable def fArgs:fV->Arguments
 | .FunctionDef _ a _ _ _ _ _ _ _ _=>a
 |_=>⟨[],[],ae,[],[],ae,[]⟩
noncomputable def fBody:fV->List fV
 | .FunctionDef _ _ b _ _ _ _ _ _ _=>b
 |_=>[]
noncomputable def fScope:fV->Scope
 | .FunctionDef _ _ _ _ _ _ c _ _ _=>c
 |_=>pw.main.scope
noncomputable def tabOf:fV->List (Option au × au)
 | .Assign _ (.Dict ks vs _) _=>ks.zip vs
 |_=>[]
noncomputable def V6:List (Option au × au)->List (Int × Str)
 |(af (.Constant (.int k) _ _),.Constant (.str v) _ _)::r=>(k,v)::V6 r
 |_=>[]
noncomputable def vE:List (Int × Str):=V6 (tabOf (st 10))
def tab:List DictEntry:=ents (vE.take 646) 445++ents2 (vE.drop 646) 2383
noncomputable def fn0(n q:Str)(s:fV):Obj:=⟨.none,ae,.func {name:=n,qualname:=q,params:=fArgs s,body:=.stmts (fBody s),scope:=fScope s,globals:=0,closure:=[],defaults:=.none,kwdefaults:=.none,doc:=.none,pyModule:=.none,annotations:=ae,code:=.none,closureTuple:=.none,builtins:=0},#[]⟩
noncomputable def fn1(n q:Str)(s:fV)(g:Nat)(d m c:ay):Obj:=⟨.type "function",ae,.func {name:=n,qualname:=q,params:=fArgs s,body:=.stmts (fBody s),scope:=fScope s,globals:=g,closure:=[],defaults:=d,kwdefaults:=.none,doc:=.none,pyModule:=m,annotations:=ae,code:=c,closureTuple:=.none,builtins:=0},#[]⟩
noncomputable def Lw:Obj:=⟨.type "tuple",ae,.seq #[] 0,#[]⟩
noncomputable def YS:Obj:=⟨.none,ae,.fields #[],#[]⟩
noncomputable def cd0(a:Array ay):Obj:=⟨.type "code",ae,.fields a,#[]⟩
noncomputable def en(P:eR)(k:Str)(t:Nat)(v:ay):DictEntry:=⟨PyData.keyHash P k,.str k t,v⟩
noncomputable def V7:List ay:=[.int 1 0,.int 0 0,.ref 20,.int 7 0,.int 0 0,.ref 27,.int 14 0,.int 0 0,.ref 51,.int 16 0,.int 0 0,.ref 64,.int 124 0,.int 0 0,.ref 158,.int 127 0,.int 0 0,.ref 204,.int 133 0,.int 0 0,.ref 209,.int 136 0,.int 0 0,.ref 216,.int 150 0,.int 0 0,.ref 221,.int 152 0,.int 0 0,.ref 228,.int 157 0,.int 0 0,.ref 233,.int 173 0,.int 0 0,.ref 238,.int 180 0,.int 0 0,.ref 243,.int 196 0,.int 0 0,.ref 248,.int 208 0,.int 0 0,.ref 253]
noncomputable def YT(k:Nat):Obj:=⟨.none,ae,.fields (V7.take k).toArray,#[]⟩
noncomputable def TQ(P:eR)(nm:ay):List DictEntry:=en P "__name__" 165 nm:: [en P "__doc__" 166 cq,en P "__package__" 167 cq,en P "__loader__" 168 (rA "__main__.__loader__#opaque"),en P "__spec__" 169 cq,en P "__annotations__" 170 (cB 6),en P "__builtins__" 171 (cB 4),en P "__file__" 173 (kq "/claim/cut.py" 172),en P "__cached__" 174 cq,en P "_wall" 193 (cB 21),en P "_NODE_OUT" 198 (zd (-1) 197),en P "_NODE_DONE" 201 (zd (-2) 200),en P "_NodeInfo" 238 (cB 40),en P "CycleError" 256 (cB 55),en P "TopologicalSorter" 375 (cB 137),en P "b1_set" 437 (cB 149),en P "in_table_b1" 444 (cB 159),en P "b3_exceptions" 2395 (cB 160),en P "map_table_b3" 2403 (cB 205),en P "_law_draws" 2411 (cB 210),en P "_law_written" 2422 (cB 217),en P "_law_read" 2428 (cB 222),en P "_law_prepared" 2436 (cB 229),en P "_law_run" 2442 (cB 234),en P "_law_opened" 2448 (cB 239),en P "_law_ring" 2454 (cB 244),en P "_law_due" 2460 (cB 249),en P "law" 2466 (cB 254)]
noncomputable def x3(P:eR)(nm:ay)(k n:Nat):Obj:=⟨.type "dict",ae,.dict ((TQ P nm).take k).toArray n,#[]⟩
noncomputable def YU(P:eR):Obj:=⟨.type "dict",ae,.dict #[en P "__module__" 209 (.str "cpy313.graphlib" 194),en P "__qualname__" 211 (.str "_NodeInfo" 210),en P "__firstlineno__" 213 (.int 7 212),en P "__slots__" 217 (.ref 29),en P "__init__" 225 (.ref 36),en P "__static_attributes__" 229 (.ref 37)] 6,#[]⟩
noncomputable def V8(P:eR):Obj:=⟨.type "dict",ae,.dict #[en P "__module__" 246 (.str "cpy313.graphlib" 194),en P "__firstlineno__" 250 (.int 14 249),en P "__static_attributes__" 251 (.ref 53),en P "__weakref__" 253 (.ref 56),en P "__doc__" 254 cq] 3,#[]⟩
noncomputable def o55(_:eR):Obj:=⟨.type "type",ae,.cls {name:= "CycleError",bases:=[.type "ValueError"],mro:=[.ref 55,.type "ValueError",.type "Exception",.type "BaseException",.type "object"],ns:=54,qualname:= "CycleError",hasDict:=ao,slotNames:=[],subclasses:=[],abstract:=bc,collection:=ae,hasDel:=bc},#[af (.ref 46),ae,af (.str "CycleError" 239),af (.str "CycleError" 247),af (.builtin "ValueError.__new__"),af (.bool ao)]⟩
noncomputable def Qa(P:eR):Obj:=⟨.type "set",ae,.set #[(65024,.int 65024 394),(65025,.int 65025 395),(65026,.int 65026 396),(65027,.int 65027 397),(65028,.int 65028 398),(65029,.int 65029 399),(6150,.int 6150 380),(65030,.int 65030 400),(65031,.int 65031 401),(65032,.int 65032 402),(65033,.int 65033 403),(6155,.int 6155 381),(6156,.int 6156 382),(6157,.int 6157 383),(8203,.int 8203 384),(8204,.int 8204 385),(8205,.int 8205 386),(65034,.int 65034 404),(65035,.int 65035 405),(65036,.int 65036 406),(65037,.int 65037 407),(65038,.int 65038 408),(65039,.int 65039 409),(173,.int 173 378),(847,.int 847 379),(8288,.int 8288 387),(65279,.int 65279 388)] 29 {mask:=127,place:= #[0,1,2,3,4,5,6,7,8,9,10,11,12,13,14,15,16,17,18,19,20,21,22,45,79,96,127],dummies:= #[],finger:=0,led:= !P.followText "set-order",moves:=2,plain:=ao},#[]⟩
def TU(_:eR):Obj:=⟨.type "dict",ae,.dict tab.toArray 650,#[]⟩
noncomputable def Vo(a:Array ay):Obj:=⟨.type "tuple",ae,.seq a 0,#[]⟩
noncomputable def YV(n q:Str)(t:Nat)(L a k:Int)(b:Bool)(r:Nat)(x y z:ay)(u:Int)(v:Nat):Obj:=cd0 #[.str n t,.str q (t+1),.str "/claim/cut.py" (t+2),.int L 0,.int a 0,.int 0 0,.int 0 0,.int k 0,.ref r,.bool b,.int 181 0,.ref (r+1),cq,x,y,z,.int u 0,.int L 0,.str "/claim/cut.py" v]
noncomputable def fC(n:Str)(t:Nat)(L:Int)(r:Nat)(u:Int)(v:Nat):Obj:=YV n n t L 0 0 bc r .none .none .none u v
noncomputable def fA(n q:Str)(s:fV)(m:ay)(d:ay)(t:Nat)(L a k:Int)(r:Nat)(ns:Array ay)(u:Int)(v:Nat)(e:List Obj):List Obj:=Lw::YS::Vo ns::Lw::fn0 n q s::YV n q t L a k ao r (.ref (r+2)) (.ref (r+3)) (.ref (r+4)) u v::fn1 n q s 3 d m (.ref (r+5))::e
noncomputable def fB(n q:Str)(s:fV)(m:ay)(t:Nat)(L a k:Int)(r:Nat)(u:Int)(v:Nat)(e:List Obj):List Obj:=Lw::YS::fn0 n q s::YV n q t L a k ao r .none .none (.ref (r+2)) u v::fn1 n q s 3 .none m (.ref (r+3))::e
def TV(P:eR)(x y:Obj):List Obj:=boot_o_0 P::boot_o_1 P::boot_o_2 P::x::boot_o_4 P::boot_o_5 P::boot_o_6 P::boot_o_7 P::boot_o_8 P::boot_o_9 P::boot_o_10 P::Lw::y::fC "<module>" 182 1 11 185 186::⟨.type "frame",ae,.plain,#[af (.ref 13),af (.ref 3),af (.ref 3),ae,af (.str "__main__" 164),ae,af (.ref 0)]⟩::fA "_wall" "_wall" (st 0) (.str "__main__" 164) .none 187 1 1 3 15 #[.str "k" 190] 191 192 (Lw::⟨.type "builtin_function_or_method",ae,.fields #[.builtin "type.__prepare__",.type "type"],#[]⟩::YU P::Lw::⟨.none,ae,.fields #[.int 10 0,.int 4 0,.ref 35],#[]⟩::fC "_NodeInfo" 204 7 25 207 208::⟨.type "frame",ae,.plain,#[af (.ref 27),af (.ref 3),af (.ref 24),ae,af (.str "cpy313.graphlib" 194),ae,af (.ref 0)]⟩::Vo #[.str "node" 214,.str "npredecessors" 215,.str "successors" 216]::fA "__init__" "_NodeInfo.__init__" (stC 4 1) (.str "cpy313.graphlib" 194) .none 218 10 2 3 30 #[.str "self" 221,.str "node" 222] 223 224 (Vo #[.str "node" 226,.str "npredecessors" 227,.str "successors" 228]::⟨.type "list",ae,.seq #[.str "node" 214,.str "npredecessors" 215,.str "successors" 216] 1,#[]⟩::⟨.type "dict",ae,.dict #[en P "__module__" 209 (.str "cpy313.graphlib" 194),en P "__firstlineno__" 213 (.int 7 212),en P "__slots__" 217 (.ref 29),en P "__init__" 225 (.ref 36),en P "__static_attributes__" 229 (.ref 37),en P "node" 231 (.ref 41),en P "npredecessors" 233 (.ref 42),en P "successors" 235 (.ref 43),en P "__doc__" 236 cq] 5,#[]⟩::⟨.type "type",ae,.cls {name:= "_NodeInfo",bases:=[.type "object"],mro:=[.ref 40,.type "object"],ns:=39,qualname:= "_NodeInfo",hasDict:=bc,slotNames:=["node","npredecessors","successors"],subclasses:=[],abstract:=bc,collection:=ae,hasDel:=bc},#[ae,ae,af (.str "_NodeInfo" 202),af (.str "_NodeInfo" 210),af (.builtin "object.__new__"),af (.bool bc)]⟩::⟨.type "member_descriptor",ae,.fields #[.str "node" 230,.ref 40,.builtin "proto.slot",.builtin "proto.slot#set",.int 2 0],#[]⟩::⟨.type "member_descriptor",ae,.fields #[.str "npredecessors" 232,.ref 40,.builtin "proto.slot",.builtin "proto.slot#set",.int 1 0],#[]⟩::⟨.type "member_descriptor",ae,.fields #[.str "successors" 234,.ref 40,.builtin "proto.slot",.builtin "proto.slot#set",.int 0 0],#[]⟩::⟨.type "super",ae,.fields #[.ref 40,.ref 40,.ref 40],#[]⟩::⟨.type "builtin_function_or_method",ae,.fields #[.builtin "object.__init_subclass__",.ref 40],#[]⟩::Vo #[.type "ValueError"]::⟨.type "builtin_function_or_method",ae,.fields #[.builtin "type.__prepare__",.type "type"],#[]⟩::⟨.type "dict",ae,.dict #[en P "__module__" 246 (.str "cpy313.graphlib" 194),en P "__qualname__" 248 (.str "CycleError" 247),en P "__firstlineno__" 250 (.int 14 249),en P "__static_attributes__" 251 (.ref 53)] 4,#[]⟩::Lw::YS::fC "CycleError" 241 14 49 244 245::⟨.type "frame",ae,.plain,#[af (.ref 51),af (.ref 3),af (.ref 48),ae,af (.str "cpy313.graphlib" 194),ae,af (.ref 0)]⟩::Lw::V8 P::o55 P::⟨.type "getset_descriptor",ae,.fields #[.str "__weakref__" 252,.ref 55,.builtin "ExceptionGroup.__weakref__",cq],#[]⟩::⟨.type "super",ae,.fields #[.ref 55,.ref 55,.ref 55],#[]⟩::⟨.type "builtin_function_or_method",ae,.fields #[.builtin "object.__init_subclass__",.ref 55],#[]⟩::Lw::⟨.type "builtin_function_or_method",ae,.fields #[.builtin "type.__prepare__",.type "type"],#[]⟩::⟨.type "dict",ae,.dict #[en P "__module__" 264 (.str "cpy313.graphlib" 194),en P "__qualname__" 266 (.str "TopologicalSorter" 265),en P "__firstlineno__" 268 (.int 16 267),en P "__init__" 278 (.ref 73),en P "_get_nodeinfo" 287 (.ref 80),en P "add" 299 (.ref 87),en P "prepare" 305 (.ref 92),en P "get_ready" 315 (.ref 99),en P "is_active" 322 (.ref 106),en P "__bool__" 329 (.ref 113),en P "done" 343 (.ref 120),en P "_find_cycle" 356 (.ref 127),en P "static_order" 363 (.ref 134),en P "__static_attributes__" 368 (.ref 135)] 14,#[]⟩::Lw::⟨.none,ae,.fields #[.int 18 0,.int 4 0,.ref 72,.int 27 0,.int 4 0,.ref 79,.int 32 0,.int 4 0,.ref 86,.int 41 0,.int 4 0,.ref 91,.int 49 0,.int 4 0,.ref 98,.int 60 0,.int 4 0,.ref 105,.int 65 0,.int 4 0,.ref 112,.int 68 0,.int 4 0,.ref 119,.int 91 0,.int 4 0,.ref 126,.int 120 0,.int 4 0,.ref 133],#[]⟩::fC "TopologicalSorter" 259 16 62 262 263::⟨.type "frame",ae,.plain,#[af (.ref 64),af (.ref 3),af (.ref 61),ae,af (.str "cpy313.graphlib" 194),ae,af (.ref 0)]⟩::Vo #[cq]::fA "__init__" "TopologicalSorter.__init__" (stC 6 0) (.str "cpy313.graphlib" 194) (.ref 66) 269 18 2 3 67 #[.str "self" 272,.str "graph" 273,.str "node" 274,.str "predecessors" 275] 276 277 (fA "_get_nodeinfo" "TopologicalSorter._get_nodeinfo" (stC 6 1) (.str "cpy313.graphlib" 194) .none 279 27 2 3 74 #[.str "self" 282,.str "node" 283,.str "result" 284] 285 286 (fA "add" "TopologicalSorter.add" (stC 6 2) (.str "cpy313.graphlib" 194) .none 288 32 2 7 81 #[.str "self" 291,.str "node" 292,.str "predecessors" 293,.str "nodeinfo" 294,.str "pred" 295,.str "pred_info" 296] 297 298 (fB "prepare" "TopologicalSorter.prepare" (stC 6 3) (.str "cpy313.graphlib" 194) 300 41 1 3 88 303 304 (fA "get_ready" "TopologicalSorter.get_ready" (stC 6 4) (.str "cpy313.graphlib" 194) .none 306 49 1 3 93 #[.str "self" 309,.str "result" 310,.str "n2i" 311,.str "node" 312] 313 314 (fA "is_active" "TopologicalSorter.is_active" (stC 6 5) (.str "cpy313.graphlib" 194) .none 316 60 1 3 100 #[.str "self" 319] 320 321 (fA "__bool__" "TopologicalSorter.__bool__" (stC 6 6) (.str "cpy313.graphlib" 194) .none 323 65 1 3 107 #[.str "self" 326] 327 328 (fA "done" "TopologicalSorter.done" (stC 6 7) (.str "cpy313.graphlib" 194) .none 330 68 1 7 114 #[.str "self" 333,.str "nodes" 334,.str "n2i" 335,.str "node" 336,.str "nodeinfo" 337,.str "stat" 338,.str "successor" 339,.str "successor_info" 340] 341 342 (fA "_find_cycle" "TopologicalSorter._find_cycle" (stC 6 8) (.str "cpy313.graphlib" 194) .none 344 91 1 3 121 #[.str "self" 347,.str "n2i" 348,.str "stack" 349,.str "itstack" 350,.str "seen" 351,.str "node2stacki" 352,.str "node" 353] 354 355 (fA "static_order" "TopologicalSorter.static_order" (stC 6 9) (.str "cpy313.graphlib" 194) .none 357 120 1 3 128 #[.str "self" 360] 361 362 (Vo #[.str "_nfinished" 364,.str "_node2info" 365,.str "_npassedout" 366,.str "_ready_nodes" 367]::⟨.type "dict",ae,.dict #[en P "__module__" 264 (.str "cpy313.graphlib" 194),en P "__firstlineno__" 268 (.int 16 267),en P "__init__" 278 (.ref 73),en P "_get_nodeinfo" 287 (.ref 80),en P "add" 299 (.ref 87),en P "prepare" 305 (.ref 92),en P "get_ready" 315 (.ref 99),en P "is_active" 322 (.ref 106),en P "__bool__" 329 (.ref 113),en P "done" 343 (.ref 120),en P "_find_cycle" 356 (.ref 127),en P "static_order" 363 (.ref 134),en P "__static_attributes__" 368 (.ref 135),en P "__dict__" 370 (.ref 138),en P "__weakref__" 372 (.ref 139),en P "__doc__" 373 cq] 4,#[]⟩::⟨.type "type",ae,.cls {name:= "TopologicalSorter",bases:=[.type "object"],mro:=[.ref 137,.type "object"],ns:=136,qualname:= "TopologicalSorter",hasDict:=ao,slotNames:=[],subclasses:=[],abstract:=bc,collection:=ae,hasDel:=bc},#[ae,ae,af (.str "TopologicalSorter" 257),af (.str "TopologicalSorter" 265),af (.builtin "object.__new__"),af (.bool ao)]⟩::⟨.type "getset_descriptor",ae,.fields #[.str "__dict__" 369,.ref 137,.builtin "function.__dict__",.builtin "function.__dict__#set"],#[]⟩::⟨.type "getset_descriptor",ae,.fields #[.str "__weakref__" 371,.ref 137,.builtin "ExceptionGroup.__weakref__",cq],#[]⟩::⟨.type "super",ae,.fields #[.ref 137,.ref 137,.ref 137],#[]⟩::⟨.type "builtin_function_or_method",ae,.fields #[.builtin "object.__init_subclass__",.ref 137],#[]⟩::⟨.type "list",ae,.seq #[.int 173 378,.int 847 379,.int 6150 380,.int 6155 381,.int 6156 382,.int 6157 383,.int 8203 384,.int 8204 385,.int 8205 386,.int 8288 387,.int 65279 388] 0,#[]⟩::⟨.type "range",ae,.fields #[.int 65024 389,.int 65040 390,.int 1 391],#[]⟩::⟨.type "list",ae,.seq #[.int 65024 394,.int 65025 395,.int 65026 396,.int 65027 397,.int 65028 398,.int 65029 399,.int 65030 400,.int 65031 401,.int 65032 402,.int 65033 403,.int 65034 404,.int 65035 405,.int 65036 406,.int 65037 407,.int 65038 408,.int 65039 409] 18,#[]⟩::⟨.type "range_iterator",ae,.fields #[.int 65040 0,.int 0 0,.int 1 0],#[]⟩::Lw::⟨.type "StopIteration",ae,.fields #[.ref 146,cq,cq,cq,.bool bc,cq],#[]⟩::⟨.type "list",ae,.seq #[.int 173 378,.int 847 379,.int 6150 380,.int 6155 381,.int 6156 382,.int 6157 383,.int 8203 384,.int 8204 385,.int 8205 386,.int 8288 387,.int 65279 388,.int 65024 394,.int 65025 395,.int 65026 396,.int 65027 397,.int 65028 398,.int 65029 399,.int 65030 400,.int 65031 401,.int 65032 402,.int 65033 403,.int 65034 404,.int 65035 405,.int 65036 406,.int 65037 407,.int 65038 408,.int 65039 409] 0,#[]⟩::Qa P::⟨.type "list_iterator",ae,.fields #[cq,.int 27 0],#[]⟩::Lw::⟨.type "StopIteration",ae,.fields #[.ref 151,cq,cq,cq,.bool bc,cq],#[]⟩::fA "in_table_b1" "in_table_b1" (st 9) (.str "cpy313.stringprep" 376) .none 438 124 1 3 153 #[.str "code" 441] 442 443 (TU P::⟨.type "dict",ae,.dict ((tab.drop 17).take 17).toArray 17,#[]⟩::⟨.type "dict",ae,.dict ((tab.drop 34).take 17).toArray 17,#[]⟩::⟨.type "dict",ae,.dict ((tab.drop 51).take 17).toArray 17,#[]⟩::⟨.type "dict",ae,.dict ((tab.drop 68).take 17).toArray 17,#[]⟩::⟨.type "dict",ae,.dict ((tab.drop 85).take 17).toArray 17,#[]⟩::⟨.type "dict",ae,.dict ((tab.drop 102).take 17).toArray 17,#[]⟩::⟨.type "dict",ae,.dict ((tab.drop 119).take 17).toArray 17,#[]⟩::⟨.type "dict",ae,.dict ((tab.drop 136).take 17).toArray 17,#[]⟩::⟨.type "dict",ae,.dict ((tab.drop 153).take 17).toArray 17,#[]⟩::⟨.type "dict",ae,.dict ((tab.drop 170).take 17).toArray 17,#[]⟩::⟨.type "dict",ae,.dict ((tab.drop 187).take 17).toArray 17,#[]⟩::⟨.type "dict",ae,.dict ((tab.drop 204).take 17).toArray 17,#[]⟩::⟨.type "dict",ae,.dict ((tab.drop 221).take 17).toArray 17,#[]⟩::⟨.type "dict",ae,.dict ((tab.drop 238).take 17).toArray 17,#[]⟩::⟨.type "dict",ae,.dict ((tab.drop 255).take 17).toArray 17,#[]⟩::⟨.type "dict",ae,.dict ((tab.drop 272).take 17).toArray 17,#[]⟩::⟨.type "dict",ae,.dict ((tab.drop 289).take 17).toArray 17,#[]⟩::⟨.type "dict",ae,.dict ((tab.drop 306).take 17).toArray 17,#[]⟩::⟨.type "dict",ae,.dict ((tab.drop 323).take 17).toArray 17,#[]⟩::⟨.type "dict",ae,.dict ((tab.drop 340).take 17).toArray 17,#[]⟩::⟨.type "dict",ae,.dict ((tab.drop 357).take 17).toArray 17,#[]⟩::⟨.type "dict",ae,.dict ((tab.drop 374).take 17).toArray 17,#[]⟩::⟨.type "dict",ae,.dict ((tab.drop 391).take 17).toArray 17,#[]⟩::⟨.type "dict",ae,.dict ((tab.drop 408).take 17).toArray 17,#[]⟩::⟨.type "dict",ae,.dict ((tab.drop 425).take 17).toArray 17,#[]⟩::⟨.type "dict",ae,.dict ((tab.drop 442).take 17).toArray 17,#[]⟩::⟨.type "dict",ae,.dict ((tab.drop 459).take 17).toArray 17,#[]⟩::⟨.type "dict",ae,.dict ((tab.drop 476).take 17).toArray 17,#[]⟩::⟨.type "dict",ae,.dict ((tab.drop 493).take 17).toArray 17,#[]⟩::⟨.type "dict",ae,.dict ((tab.drop 510).take 17).toArray 17,#[]⟩::⟨.type "dict",ae,.dict ((tab.drop 527).take 17).toArray 17,#[]⟩::⟨.type "dict",ae,.dict ((tab.drop 544).take 17).toArray 17,#[]⟩::⟨.type "dict",ae,.dict ((tab.drop 561).take 17).toArray 17,#[]⟩::⟨.type "dict",ae,.dict ((tab.drop 578).take 17).toArray 17,#[]⟩::⟨.type "dict",ae,.dict ((tab.drop 595).take 17).toArray 17,#[]⟩::⟨.type "dict",ae,.dict ((tab.drop 612).take 17).toArray 17,#[]⟩::⟨.type "dict",ae,.dict ((tab.drop 629).take 17).toArray 17,#[]⟩::⟨.type "dict",ae,.dict ((tab.drop 646).take 4).toArray 4,#[]⟩::fA "map_table_b3" "map_table_b3" (st 11) (.str "cpy313.stringprep" 376) .none 2396 127 1 3 199 #[.str "code" 2399,.str "r" 2400] 2401 2402 (fB "_law_draws" "_law_draws" (st 13) (.str "law_nb0314_02" 2404) 2406 133 1 3 206 2409 2410 (fA "_law_written" "_law_written" (st 14) (.str "law_nb0314_02" 2404) .none 2412 136 1 3 211 #[.str "draw" 2415,.str "letter" 2416,.str "place" 2417,.str "dress" 2418,.str "sign" 2419] 2420 2421 (fB "_law_read" "_law_read" (st 15) (.str "law_nb0314_02" 2404) 2423 150 1 3 218 2426 2427 (fA "_law_prepared" "_law_prepared" (st 16) (.str "law_nb0314_02" 2404) .none 2429 152 1 3 223 #[.str "sorter" 2432,.str "error" 2433] 2434 2435 (fB "_law_run" "_law_run" (st 17) (.str "law_nb0314_02" 2404) 2437 157 1 3 230 2440 2441 (fB "_law_opened" "_law_opened" (st 18) (.str "law_nb0314_02" 2404) 2443 173 2 3 235 2446 2447 (fB "_law_ring" "_law_ring" (st 19) (.str "law_nb0314_02" 2404) 2449 180 1 3 240 2452 2453 (fB "_law_due" "_law_due" (st 20) (.str "law_nb0314_02" 2404) 2455 196 1 3 245 2458 2459 (fB "law" "law" (st 21) (.str "law_nb0314_02" 2404) 2461 208 1 3 250 2464 2465 ([])))))))))))))))))))))))
noncomputable def mkT(l:List Obj):BT:=(l.foldl (λ(x:BT × Nat) o=>(x.1.ins x.2 o,x.2+1)) (BT.nil,0)).1
def A2(nm:ay)(k3 n3 k12 n tk:Nat)(w:jw)(os:gJ):SharedT:=⟨mkT ((TV w.params (x3 w.params nm k3 n3) (YT k12)).take n),n,(gS w.params).life,#[],fY,tk,os⟩
noncomputable def nm0:ay:=kq "__main__" 164
noncomputable def Vp:ay:=kq "cpy313.graphlib" 194
noncomputable def V9:ay:=kq "cpy313.stringprep" 376
noncomputable def O1:ay:=kq "law_nb0314_02" 2404
abbrev SF:=jw->gJ->SharedT
def S0:SF:=A2 nm0 9 9 0 15 187
def S1:SF:=A2 nm0 10 10 3 22 194
def S2:SF:=A2 Vp 10 10 3 22 196
def S3:SF:=A2 Vp 11 11 3 22 199
def S4:SF:=A2 Vp 12 12 3 22 202
def S5:SF:=A2 Vp 13 13 6 46 239
def S6:SF:=A2 Vp 14 14 9 59 257
def S7:SF:=A2 Vp 15 15 12 142 376
def S8:SF:=A2 V9 15 15 12 142 378
def S9:SF:=A2 V9 16 16 12 153 438
def YW:SF:=A2 V9 17 17 15 160 445
def YX:SF:=A2 V9 18 18 15 199 2396
def S12:SF:=A2 V9 19 19 18 206 2404
def S13:SF:=A2 O1 19 19 18 206 2406
def S14:SF:=A2 O1 20 20 21 211 2412
def S15:SF:=A2 O1 21 21 24 218 2423
def S16:SF:=A2 O1 22 22 27 223 2429
def S17:SF:=A2 O1 23 23 30 230 2437
def S18:SF:=A2 O1 24 24 33 235 2443
def S19:SF:=A2 O1 25 25 36 240 2449
def S20:SF:=A2 O1 26 26 39 245 2455
def S21:SF:=A2 O1 27 27 42 250 2461
def Wa:SF:=A2 O1 28 28 45 255 2467
noncomputable def q0:Pos:=⟨0,0,0,0⟩
noncomputable def s7:Env:={scope:=pw.main.scope,locals:=mainNs,globals:=mainNs,cells:=[],code:=.ref 13,frame:=af 14}
noncomputable def cE:Code:=.body (sD pw) s7
noncomputable def B0:List Frame:=[topFrame q0]
abbrev Pc(n:Nat)(a b:SF)(i:Nat)(p q:Pos):Prop:=∀w os,segRunT eX pw w 11 (af (.ref 6)) 1 n (a w os) (piecesOf [st i] s7 cE p B0)=af (.next,b w os,cE,q)
theorem p0:Pc 30 S0 S1 0 q0 ⟨1,0,3,12⟩:=λw os=>by
 kernel_rfl
theorem p1:Pc 10 S1 S2 1 ⟨1,0,3,12⟩ ⟨4,0,4,8⟩:=λw os=>by
 kernel_rfl
theorem p2:Pc 15 S2 S3 2 ⟨4,0,4,8⟩ ⟨5,0,5,9⟩:=λw os=>by
 kernel_rfl
theorem p3:Pc 15 S3 S4 3 ⟨5,0,5,9⟩ ⟨6,0,6,10⟩:=λw os=>by
 kernel_rfl
theorem p4:Pc 264 S4 S5 4 ⟨6,0,6,10⟩ ⟨7,0,13,28⟩:=λw os=>by
 rw [gO,gP];kernel_rfl
theorem p5:Pc 187 S5 S6 5 ⟨7,0,13,28⟩ ⟨14,0,15,8⟩:=λw os=>by
 kernel_rfl
theorem p6:Pc 528 S6 S7 6 ⟨14,0,15,8⟩ ⟨16,0,121,16⟩:=λw os=>by
 rw [gO,gP];kernel_rfl
theorem p7:Pc 10 S7 S8 7 ⟨16,0,121,16⟩ ⟨122,0,122,8⟩:=λw os=>by
 kernel_rfl
theorem p8:Pc 1298 S8 S9 8 ⟨122,0,122,8⟩ ⟨123,0,123,6⟩:=by
 refine byRow2 "set-order" (byRow2 "special-get-raises" ?_ ?_) (byRow2 "special-get-raises" ?_ ?_);all_goals
  intro w os;rw [gO,gP];kernel_rfl
theorem p9:Pc 30 S9 YW 9 ⟨123,0,123,6⟩ ⟨124,0,125,30⟩:=λw os=>by
 kernel_rfl
theorem p11:Pc 31 YX S12 11 ⟨126,0,126,13⟩ ⟨127,0,131,23⟩:=λw os=>by
 kernel_rfl
theorem p12:Pc 10 S12 S13 12 ⟨127,0,131,23⟩ ⟨132,0,132,8⟩:=λw os=>by
 kernel_rfl
theorem p13:Pc 27 S13 S14 13 ⟨132,0,132,8⟩ ⟨133,0,135,75⟩:=λw os=>by
 kernel_rfl
theorem p14:Pc 34 S14 S15 14 ⟨133,0,135,75⟩ ⟨136,0,149,80⟩:=λw os=>by
 kernel_rfl
theorem p15:Pc 27 S15 S16 15 ⟨136,0,149,80⟩ ⟨150,0,151,87⟩:=λw os=>by
 kernel_rfl
theorem p16:Pc 31 S16 S17 16 ⟨150,0,151,87⟩ ⟨152,0,156,38⟩:=λw os=>by
 kernel_rfl
theorem p17:Pc 27 S17 S18 17 ⟨152,0,156,38⟩ ⟨157,0,172,43⟩:=λw os=>by
 kernel_rfl
theorem p18:Pc 27 S18 S19 18 ⟨157,0,172,43⟩ ⟨173,0,179,18⟩:=λw os=>by
 kernel_rfl
theorem p19:Pc 27 S19 S20 19 ⟨173,0,179,18⟩ ⟨180,0,195,35⟩:=λw os=>by
 kernel_rfl
theorem p20:Pc 27 S20 S21 20 ⟨180,0,195,35⟩ ⟨196,0,207,75⟩:=λw os=>by
 kernel_rfl
theorem p21:Pc 27 S21 Wa 21 ⟨196,0,207,75⟩ ⟨208,0,215,44⟩:=λw os=>by
 kernel_rfl
noncomputable def RZ:fV->Pos
 | .Assign _ _ p=>p
 |_=>⟨0,0,0,0⟩
noncomputable def s8:fV->Pos
 | .Assign _ (.Dict _ _ p) _=>p
 |_=>⟨0,0,0,0⟩
noncomputable def KL:fV->List au
 | .Assign ts _ _=>ts
 |_=>[]
noncomputable def Qb:List (List (Int × Str)):=(mR 37).map λi=>(vE.drop (17*(i+1))).take 17
noncomputable def HI(v:ay):Sem Flow:=assignStores s7 v ae ((iF (KL (st 10)) s7).map (·.2))
theorem yU:vE=vE.take 17++Qb.flatten++vE.drop 646:=by kernel_rfl
theorem A3:rising (vE.map (·.1))=ao:=by kernel_rfl
theorem MU:(vE.all λx=>decide (0<=x.1)&&decide (x.1<2305843009213693951))=ao:=by kernel_rfl
theorem TX:exec (st 10) s7=(do lh (RZ (st 10));lh (s8 (st 10));dictDisplay (itemsOf (s8 (st 10)) vE))>>=HI:=by kernel_rfl
theorem I5:Qb.length=37:=by kernel_rfl
theorem TY:(Qb.all λc=>c.length==17)=ao:=by kernel_rfl
def Lb(w:jw):List Obj:=(TV w.params (x3 w.params (kq "cpy313.stringprep" 376) 17 17) (YT 15)).take 160
theorem HJ(w:jw):(Lb w).length=160:=by kernel_rfl
theorem Qc(w:jw)(os:gJ):(YW w os).abs=sh (Lb w) (gS w.params).life #[] fY 445 os:=by kernel_rfl
def YY(w:jw):List Obj:=Lb w++dictOf (ents (vE.take 17++Qb.flatten) 445++ents2 (vE.drop 646) 2383) 650::(subsOf Qb 496++ [dictOf (ents2 (vE.drop 646) 2383) 4])
theorem Qd(w:jw)(os:gJ)(K:Flow->Sem PySem.Fin)(H:ay->Sem PySem.Fin)(p:Pos):
  topGo eX pw w 11 (af (.ref 6)) 7 (sh (YY w) (gS w.params).life #[] fY 2395 os) ⟨(HI (.ref 160)).wrap K H id id,cE,p,B0⟩=af ((YX w os).abs,⟨K .next,cE,⟨126,0,126,13⟩,B0⟩):=by kernel_rfl
theorem DG:(vE.drop 646).length=4:=by kernel_rfl
theorem MV:(vE.take 17).length=17:=by kernel_rfl
theorem p10(w:jw)(os:gJ)(N:Nat)(r:aM)(rest:List fV)(h:u9 eX pw w 11 (af (.ref 6)) N (YX w os).abs (zk rest s7 cE ⟨126,0,126,13⟩ B0)=af r):
  u9 eX pw w 11 (af (.ref 6)) (N+14000) (YW w os).abs (zk ([st 10]++rest) s7 cE ⟨124,0,125,30⟩ B0)=af r:=by
 have ok:∀x∈vE.take 17++Qb.flatten++vE.drop 646,tS x.1:=λx hx=>by
  rw [←yU] at hx;have:=bK.mp MU x hx;simpa using this
 have nd:((vE.take 17++Qb.flatten++vE.drop 646).map (·.1)).Nodup:=by
  rw [←yU];exact sR _ A3
 have h17:∀c∈Qb,c.length=17:=λc hc=>by simpa using bK.mp TY c hc
 have D:=Df (pr:=pw) (w:=w) (n₀:=11) (ann:=af (.ref 6)) (pos:=s8 (st 10)) (L:=Lb w) (life:=(gS w.params).life) (g:= #[]) (dr:=fY) (tk:=445) (os:=os)
  (by rw [HJ];decide) (by rw [HJ];decide) (vE.take 17) (vE.drop 646) Qb MV h17 (by intro q;have:=DG;rw [q] at this;cases this) (by rw [DG];decide) (by rw [I5];decide) ok nd
 rw [I5,DG,HJ,←yU] at D;have D':=bJ (by decide) (n:=340*39+2) (n₁:=1) (n₂:=340*39+1) (f:=λ_=>(do lh (s8 (st 10));dictDisplay (itemsOf (s8 (st 10)) vE))) (sQ (pr:=pw) (w:=w) (n₀:=11) (ann:=af (.ref 6)) (q:=RZ (st 10))) (bJ (by decide) (n:=340*39+1) (n₁:=1) (n₂:=340*(37+2)) (f:=λ_=>dictDisplay (itemsOf (s8 (st 10)) vE)) (sQ (pr:=pw) (w:=w) (n₀:=11) (ann:=af (.ref 6)) (q:=s8 (st 10))) D);obtain ⟨p',hp⟩:=D' (λv=>(HI v).wrap (λf=>match f with| .next=>(execs rest s7).wrap doneF (leaveH s7) id id|f=>doneF f) (leaveH s7) id id) (leaveH s7) id id cE ⟨124,0,125,30⟩ B0;have t:=go_top (Qd w os (λf=>match f with| .next=>(execs rest s7).wrap doneF (leaveH s7) id id|f=>doneF f) (leaveH s7) p') h;have t':=hp _ r t;rw [Qc];unfold zk;rw [List.singleton_append,execs_cons_wrap,TX,yh,nk];have t'':=zN (N+14000-(7+N+(340*39+2))) _ _ _ _ t';rw [show 7+N+(340*39+2)+(N+14000-(7+N+(340*39+2)))=N+14000 from fy (ai (ar (congrArg (· +13262) (cD 7 _))) (bF (ak rfl:13269<=14000) _))] at t'';exact t''
def HF(P:eR):pQ:=⟨(TV P (x3 P (kq "law_nb0314_02" 2404) 28 28) (YT 45)).toArray,(gS P).life⟩
theorem Qe(w:jw)(os:gJ):(Wa w os).abs=⟨HF w.params,#[],fY,2467,os⟩:=by kernel_rfl
theorem Qf(w:jw)(os:gJ):u9 eX pw w 11 (af (.ref 6)) 2 (Wa w os).abs (zk [] s7 cE ⟨208,0,215,44⟩ B0)=af (Wa w os).abs:=by kernel_rfl
theorem TZ(w:jw)(os:gJ):topGo eX pw w 11 (af (.ref 6)) 12 ⟨gS w.params,#[],fY,zl,os⟩ (topStub pw)=af ((S0 w os).abs,⟨denote eX cE,cE,⟨0,0,0,0⟩,B0⟩):=by kernel_rfl
theorem KN(w:jw)(os:gJ):segRun eX pw w 11 (af (.ref 6)) 1 1 (S0 w os).abs (blockOf (sD pw) s7 cE ⟨0,0,0,0⟩ B0)=af (.next,(S0 w os).abs,cE,q0):=by kernel_rfl
theorem Cd{a b:SF}{p q:Pos}(h:Pc n a b i p q){os:gJ}{N:Nat}{r:aM}{rest:List fV}(k:u9 eX pw w 11 (af (.ref 6)) N (b w os).abs (zk rest s7 cE q B0)=af r):u9 eX pw w 11 (af (.ref 6)) (n+N) (a w os).abs (zk ([st i]++rest) s7 cE p B0)=af r:=
 piece_app (q:=q0) (l:=[st i]) (segRun_of (h w os)) k
noncomputable def R0:List fV:=[st 0]++([st 1]++([st 2]++([st 3]++([st 4]++([st 5]++([st 6]++([st 7]++([st 8]++([st 9]++([st 10]++([st 11]++([st 12]++([st 13]++([st 14]++([st 15]++([st 16]++([st 17]++([st 18]++([st 19]++([st 20]++([st 21]++ [])))))))))))))))))))))
theorem Qg:sD pw=R0:=by kernel_rfl
theorem YZ(w:jw)(os:gJ):u9 eX pw w 11 (af (.ref 6)) 17000 ⟨gS w.params,#[],fY,zl,os⟩ (topStub pw)=af ⟨HF w.params,#[],fY,2467,os⟩:=by
 rw [←Qe w os];have k:=Qf w os;replace k:=Cd p21 k;replace k:=Cd p20 k;replace k:=Cd p19 k;replace k:=Cd p18 k;replace k:=Cd p17 k;replace k:=Cd p16 k;replace k:=Cd p15 k;replace k:=Cd p14 k;replace k:=Cd p13 k;replace k:=Cd p12 k;replace k:=Cd p11 k;replace k:=p10 w os _ _ _ k;replace k:=Cd p9 k;replace k:=Cd p8 k;replace k:=Cd p7 k;replace k:=Cd p6 k;replace k:=Cd p5 k;replace k:=Cd p4 k;replace k:=Cd p3 k;replace k:=Cd p2 k;replace k:=Cd p1 k;replace k:=Cd p0 k;have b:=KN w os;have k':u9 eX pw w 11 (af (.ref 6)) _ (S0 w os).abs (zk R0 s7 cE q0 B0)=af (Wa w os).abs:=k;rw [←Qg] at k';have k'':=go_top (TZ w os) (piece_block (q:=q0) b k');have e:=zN (17000-16697) _ _ _ _ k'';exact e
noncomputable def qv:qL:={pw with main:={pw.main with body:=[st 0,st 1,st 2,st 3,st 5,st 6,st 7,st 9,st 11,st 12,st 13,st 14,st 15,st 16,st 17,st 18,st 19,st 20,st 21]}}
noncomputable def A4:List Str:=[ah "_NodeInfo",ah "b1_set",ah "b3_exceptions"]
def KF(P:eR):r8:=(mR 255).zip (HF P).objs.toList
theorem Qh(P:eR):mR 255=(KF P).map (·.1):=by kernel_rfl
noncomputable abbrev Xt0:aM->Bool:=λs=>xlAt qv [] s&&recOk [] s
abbrev Hk:Hook:=kHook KF (mR 255) Qh
theorem Wb:∀w:jw,(fencedOpening eX pw w 40000).map (λs=>(s.heap,s.gens,s.drawn,s.toks))=af (gS w.params,GB [],fY,zl):=
 boot_open (by kernel_rfl) (by rfl) (λs=>by kernel_rfl)
theorem Wc(w:jw):((gS w.params).isNs gm&&(GB []:Array nM).size==0,(gS w.params).objs.size,(gS w.params).nsMap gm "__annotations__")=(ao,11,af (.ref 6)):=by kernel_rfl
theorem Wd(w:jw)(os:gJ):(staticsOk (importedModules pw.main.body) (gS w.params) (HF w.params)&&namesBound pw (HF w.params)&&gensDone ⟨HF w.params,#[],fY,2467,os⟩&&laidKept (gS w.params) (HF w.params))=ao:=by kernel_rfl
theorem We(w:jw)(os:gJ):Hk.obs ⟨HF w.params,#[],fY,2467,os⟩=Hk.val w:=by kernel_rfl
theorem Wf(w:jw)(os:gJ):openSeen qv A4 (importedModules pw.main.body) Xt0 ao ⟨HF w.params,#[],fY,2467,os⟩=openGood qv A4:=by
 unfold openSeen openGood;refine jl ?_ (jl ?_ (jl ?_ (jl ?_ (jl ?_ (jl ?_ (jl ?_ (jl ?_ ?_)))))));all_goals kernel_rfl
theorem Wg:LeftO pw qv A4 Xt0 Hk.obs Hk.val 40000:=
 LeftO.of_pieces (H₀:=gS) (H₁:=HF) (gs₀:=GB []) (gs₁:= #[]) (d₀:=fY) (d₁:=fY) (k₀:=zl) (k₁:=2467) (m₀:=11) (ann:=af (.ref 6)) (M:=17000)
  Wb Wc YZ (by rfl) (λw=>funext λos=>jl (Wd w os) (jl (Wf w os) (We w os)))
noncomputable def Y0:fV->Pos
 | .FunctionDef _ _ _ _ _ _ _ _ _ p=>p
 |_=>⟨0,0,0,0⟩
noncomputable def dl:DefRec:={name:=ah "law",params:=fArgs (st 21),body:=fBody (st 21),scope:=fScope (st 21),pos:=Y0 (st 21)}
theorem Wh:dQ.wellSaid=ao:=by kernel_rfl
theorem Wi(hc:WalkO qv A4 (XL qv []) Hk.says dQ.row.toRowW dl [] λf vs=>PySem.call f vs):dQ.Holds:=by
 refine holds_law Wh λsaid=>?_;refine holds_open (q:=qv) (loose:=A4) (Xt:=λs=>xlAt qv [] s&&recOk (RowW.records dQ.row.toRowW) s) (XP:=XL qv []) (Yf:=Hk.obs) (Ya:=Hk.val) (YP:=Hk.says) (N:=40000) Wg Hk.of Hk.keeps
  (λs e=>xl_of s (vm.mp e).1) XL.keeps (by kernel_rfl) (by kernel_rfl) (by kernel_rfl) (λs e=>recFacts_of (vm.mp e).2) (by rfl) (by assumption) (by decide+kernel) ⟨rfl,rfl,rfl,rfl,rfl,by decide+kernel⟩ ?hw hc
 case hw=>w_witness2
theorem qZ{x:bj}:∀(l:r8),(l.filter λp=>p.1 != x).lookup a=if a=x then ae else l.lookup a
 | []=>by simp
 |(b,o)::r=>by
  refine ku▸ ?_;by_cases hb:b=x
  ·subst hb;simp only [bne_self_eq_false,dw,if_false];refine (qZ r).trans ?_;by_cases ha:a=b
   ·simp [ha]
   ·rw [if_neg ha,if_neg ha,cz];have:(a==b)=bc:=by simpa using ha
    exact (this)▸rfl
  ·have h1:(b != x)=ao:=by simpa using hb
   simp only [h1,if_true];rw [cz,cz];induction hab:a==b using cF with
   |true=>simp only;(exact (if_neg (by rw [beq_iff_eq.mp hab];exact hb)).symm)
   |false=>simp only;exact qZ r
def Kw(P:eR):r8:=(KF P).filter λp=>p.1 != 24
noncomputable def h0(h:pQ):pQ:=hideAll h [24]
def Vq:List (Int × V):=vE.map λp=>(p.1,.str p.2)
noncomputable def Y1:List (Int × Nat):=[(65024,394),(65025,395),(65026,396),(65027,397),(65028,398),(65029,399),(6150,380),(65030,400),(65031,401),(65032,402),(65033,403),(6155,381),(6156,382),(6157,383),(8203,384),(8204,385),(8205,386),(65034,404),(65035,405),(65036,406),(65037,407),(65038,408),(65039,409),(173,378),(847,379),(8288,387),(65279,388)]
noncomputable def T1:List Int:=Y1.map (·.1)
def cR(l:bj)(ns:List Int):List (bj × O):=[(160,.qw Vq),(149,.B1 T1),(l,.list (ns.map .int))]
theorem Wj{b:bj}{o:Obj}(e:(h0 h).get? b=af o):h.get? b=af o:=of_hideAll _ e
theorem tV{b:bj}{o:Obj}(e:h.get? b=af o)(hb:b≠24):(h0 h).get? b=af o:=hideAll_get _ e (by simpa using hb)
theorem Qi:(h0 h).get? 24=ae:=hideAll_none _ (by exact fg)
theorem Wk(Y:(KF w.params).In h):(Kw w.params).In (h0 h):=λa o e=>by
 dsimp only [Kw] at e;rw [qZ] at e;split at e
 ·exact nn e
 ·rename_i ha
  exact tV (Y _ _ e) ha
theorem I6(P:eR):(KF P).lookup 160=af (TU P):=by kernel_rfl
theorem I7(P:eR):(KF P).lookup 149=af (Qa P):=by kernel_rfl
theorem MW(P:eR):(KF P).lookup 55=af (o55 P):=by kernel_rfl
theorem MX(P:eR):(KF P).lookup 54=af (V8 P):=by kernel_rfl
theorem MY(P:eR):(KF P).lookup 24=af (YU P):=by kernel_rfl
theorem T2(P:eR):((KF P).lookup 1).isSome=ao:=by kernel_rfl
theorem wQ{k:Int}(h1:0<=k)(h2:k<2305843009213693951):hashInt k=k:=by
 have e1:(k.natAbs:Int)=k:=nJ h1;have e2:((2^61-1:Nat):Int)=2305843009213693951:=by decide
 have n1:¬((k== -1)=ao):=λh=>by have:=beq_iff_eq.mp h;exact absurd (e1.trans this) (Int.ne_of_gt (pR (by decide) (dY _)))
 have hr:rawHash k=k:=by
  dsimp only [rawHash];have n0:¬k<0:=e1▸mP.mpr (dY _);simp only [e1,e2,yi h1 h2,n0,if_false];exact (if_neg n1)
 dsimp only [hashInt];rw [hr,if_neg n1]
theorem I8:∀(ps:List (Int × Str)) (t:Nat),(ps.all λx=>decide (0<=x.1)&&decide (x.1<2305843009213693951))=ao->∃kvs,Pairs (iO pr w) (ents ps t) kvs/\kvs.map (·.1)=ps.map (·.1)/\cW [] (ps.map λp=>(p.1,bp p.2)) kvs/\∀e∈ents ps t,∃k,(iO pr w).is k e.key=ao/\e.hash=(iO pr w).hash k
 | [],t,_=>⟨[],.nil,rfl,trivial,λe h=>nomatch h⟩
 |x::r,t,h=>by
  rw [iC,aS,aS,decide_eq_true_eq,decide_eq_true_eq] at h;obtain ⟨kvs,k1,k2,k3,k4⟩:=I8 r (t+3) h.2;refine ⟨(x.1,.str x.2 (t+1))::kvs,.cons (A5 x.1 t) rfl k1,by simp [k2],⟨⟨rfl,_,rfl⟩,k3⟩,λe he=>?_⟩;rcases jJ he with rfl|he
  ·exact ⟨x.1,A5 x.1 t,(wQ h.1.1 h.1.2).symm⟩
  ·exact k4 e he
where
 A5 (k:Int) (t:Nat):(iO pr w).is k (.int k t)=ao:=isInt_self (x:=k) (t:=t)
theorem Fq:∀(ps:List (Int × Str)) (t:Nat),(ps.all λx=>decide (0<=x.1)&&decide (x.1<2305843009213693951))=ao->∃kvs,Pairs (iO pr w) (ents2 ps t) kvs/\kvs.map (·.1)=ps.map (·.1)/\cW [] (ps.map λp=>(p.1,bp p.2)) kvs/\∀e∈ents2 ps t,∃k,(iO pr w).is k e.key=ao/\e.hash=(iO pr w).hash k
 | [],t,_=>⟨[],.nil,rfl,trivial,λe h=>nomatch h⟩
 |x::r,t,h=>by
  rw [iC,aS,aS,decide_eq_true_eq,decide_eq_true_eq] at h;obtain ⟨kvs,k1,k2,k3,k4⟩:=Fq r (t+2) h.2;refine ⟨(x.1,.str x.2 (t+1))::kvs,.cons (A5 x.1 t) rfl k1,by simp [k2],⟨⟨rfl,_,rfl⟩,k3⟩,λe he=>?_⟩;rcases jJ he with rfl|he
  ·exact ⟨x.1,A5 x.1 t,(wQ h.1.1 h.1.2).symm⟩
  ·exact k4 e he
where
 A5 (k:Int) (t:Nat):(iO pr w).is k (.int k t)=ao:=isInt_self (x:=k) (t:=t)
theorem DH{es es':List DictEntry}{kvs kvs':List (Int × ay)}(h:Pairs (iO pr w) es kvs)(h':Pairs (iO pr w) es' kvs'):Pairs (iO pr w) (es++es') (kvs++kvs'):=by
 induction h with
 |nil=>exact h'
 |cons a b r ih=>exact .cons a b ih
theorem DI{es es':List (Int × V)}{kvs kvs':List (Int × ay)}(h:cW ρ es kvs)(h':cW ρ es' kvs'):cW ρ (es++es') (kvs++kvs'):=
 h.by (P:=λes kvs=>cW ρ (es++es') (kvs++kvs')) h' λa v es w kvs r _ ih=>(show cW ρ ((a,v)::(es++es')) ((a,w)::(kvs++kvs')) from ⟨⟨rfl,r⟩,ih⟩)
theorem T4:ou pr w [] (.qw Vq) (TU w.params):=by
 have hok:=MU;have XO:((vE.take 646).all λx=>decide (0<=x.1)&&decide (x.1<2305843009213693951))=ao/\((vE.drop 646).all λx=>decide (0<=x.1)&&decide (x.1<2305843009213693951))=ao:=by
  rw [←mE 646 vE,List.all_append,aS] at hok;exact hok
 refine C8 (I8 (w:=w) (pr:=pr) (vE.take 646) 445 XO.1) λkvs a1 a2 a3 a4=>?_;refine C8 (Fq (w:=w) (pr:=pr) (vE.drop 646) 2383 XO.2) λkvs' b1 b2 b3 b4=>?_;refine ⟨tab.toArray,650,kvs++kvs',⟨rfl,rfl,rfl⟩,rfl,λe he=>?_,?_,?_,?_⟩
 ·have he':e∈ents (vE.take 646) 445++ents2 (vE.drop 646) 2383:=by simpa [tab] using he
  rcases aG.mp he' with h|h
  ·exact a4 e h
  ·exact b4 e h
 ·show Pairs _ (tab.toArray.toList) _;exact DH a1 b1
 ·rw [cw,a2,b2,←cw,mE];exact sR _ A3
 ·have:=DI a3 b3;rw [←cw,mE] at this;exact this
theorem Wl:(Y1.all λx=>decide (0<=x.1)&&decide (x.1<2305843009213693951))=ao:=by decide
theorem T5:ou pr w [] (.B1 T1) (Qa w.params):=by
 have es:(Qa w.params)=⟨.type "set",ae,.set (Y1.map λp=>(p.1,zd p.1 p.2)).toArray 29 {mask:=127,place:= #[0,1,2,3,4,5,6,7,8,9,10,11,12,13,14,15,16,17,18,19,20,21,22,45,79,96,127],dummies:= #[],finger:=0,led:= !w.params.followText "set-order",moves:=2,plain:=ao},#[]⟩:=rfl;rw [es];refine ⟨_,_,_,⟨rfl,rfl,rfl⟩,rfl,λe he=>?_,λk=>?_,by decide,by rfl,by rfl⟩
 ·simp only [aT] at he;refine aR he λp hp q'1=>?_;obtain rfl:=q'1;have:=bK.mp Wl p hp;rw [aS,decide_eq_true_eq,decide_eq_true_eq] at this;exact ⟨⟨p.1,isInt_self (t:=p.2),(wQ this.1 this.2).symm⟩,rfl⟩
 ·constructor
  ·intro h;have h:=iK h;refine aR (aT.mp h) λp hp q'2=>?_;obtain rfl:=q'2;exact ⟨(p.1,.int p.1 p.2),by simp only [aT];exact ⟨p,hp,rfl⟩,isInt_self (t:=p.2)⟩
  ·rintro ⟨e,he,hk⟩;simp only [aT] at he;refine aR he λp hp q'3=>?_;obtain rfl:=q'3;have hk':vh k (.int p.1 p.2)=ao:=hk;simp only [vh,beq_iff_eq] at hk';subst hk';exact decide_eq_true (aT.mpr ⟨p,hp,rfl⟩)
noncomputable abbrev Y2:=dQ.row.toRowW
def KO(P:eR):Array DictEntry:=match (V8 P).data with
 | .dict es _=>es
 |_=> #[]
theorem MZ(P:eR):StrKeys (KO P):=by
 intro e he;have he':e∈(KO P).toList:=by simpa using he
 dsimp only [KO,V8] at he';simp only [aY,c8,or_false] at he';rcases he' with rfl|rfl|rfl|rfl|rfl<;>exact ⟨_,_,rfl⟩
theorem CS(P:eR):∀n∈quietNames,tB (KO P) n=ae:=by
 intro n hn;simp only [quietNames,aY,c8,or_false] at hn;rcases hn with rfl|rfl|rfl|rfl<;>kernel_rfl
theorem I9(e:h.get? 54=af (V8 P)):h.Ns 54 (tB (KO P)):=⟨_,KO P,3,e,rfl,MZ P,λ_=>rfl⟩
theorem T6(e:h.get? 24=af (YU P)):∃m,h.Ns 24 m:=by
 refine ⟨_,_,_,_,e,rfl,?_,λ_=>rfl⟩;intro e he;simp only [List.mem_toArray,aY,c8,or_false] at he;rcases he with rfl|rfl|rfl|rfl|rfl|rfl<;>exact ⟨_,_,rfl⟩
def ctx(w:jw)(h:pQ)(Y:(KF w.params).In h)(l:bj)(ns:List Int)(vs:List ay)(hl:h.get? l=af {cls:=.type "list",data:=.seq vs.toArray})(hv:bM [] (ns.map bD) vs)(hn:ns.length<=63)(hsys:(l==sysModules)=bc)(hlim:h.NoLimit)(hg:∃mg,h.Ns gm mg)(hb:∃mb,h.Ns builtinsNs mb/\∀x:Str,x≠("__name__" :Str)->mb x=tA x):lH where
 pr:=pw
 w:=w
 h₀:=h0 h
 K:=Kw w.params
 aj:=cR l ns
 isIn:=Wk Y
 top:=λa o e=>by
  dsimp only [cR] at e;rw [cz] at e;split at e
  ·rename_i ha
   have ha:a=160:=beq_iff_eq.mp ha;(injection e with e;subst e);subst ha;exact ⟨_,tV (Y _ _ (I6 _)) (by decide),T4⟩
  ·rw [cz] at e;split at e
   ·rename_i ha
    have ha:a=149:=beq_iff_eq.mp ha;(injection e with e;subst e);subst ha;exact ⟨_,tV (Y _ _ (I7 _)) (by decide),T5⟩
   ·rw [cz] at e;split at e
    ·rename_i ha
     have ha:a=l:=beq_iff_eq.mp ha;(injection e with e;subst e);subst ha;have hlen:=hv.length;rw [aH] at hlen;refine ⟨_,tV hl (λq=>?_),vs.toArray,0,rfl,by simpa using hv,by refine gx▸ ?_;exact ai (ai (ar hlen.symm) hn) (ak rfl)⟩;subst q;have:=Y _ _ (MY _);rw [hl] at this;have hc:=congrArg Obj.cls (t5 this);have hc':gB "list" =gB "dict" :=hc;injection hc' with hc'
     exact absurd hc' (by decide)
    ·exact nn e
 Ha:=λa o e=>by
  dsimp only [cR] at e;rw [cz] at e;split at e
  ·rename_i ha
   have ha:a=160:=beq_iff_eq.mp ha;subst ha;rfl
  ·rw [cz] at e;split at e
   ·rename_i ha
    have ha:a=149:=beq_iff_eq.mp ha;subst ha;rfl
   ·rw [cz] at e;split at e
    ·rename_i ha
     have ha:a=l:=beq_iff_eq.mp ha;subst ha;exact hsys
    ·exact nn e
 VR:=by
  obtain ⟨o,ho⟩:=iD.mp (T2 w.params);exact ⟨o,tV (Y _ _ ho) (by decide)⟩
 ib:=[55]
 args:=λ{A E s a C t0 o fs Q} hC hk ha hc hd h0' q=>by
  obtain rfl:=aL.mp hC;obtain ⟨hp,g,dr,tk,os⟩:=s;have h55:=hk _ _ (tV (Y _ _ (MW _)) (by decide));have h54:=hk _ _ (tV (Y _ _ (MX _)) (by decide));exact args_attr_own PySem.F.attrBase_ValueError (nm:=ah "CycleError") (q:=ah "CycleError") (C:=55) (N:=54) (bm:=[.type "ValueError",.type "Exception",.type "BaseException",.type "object"]) h55 (I9 h54) (CS _) .base ha hc hd h0' q
 lim:=by
  refine aR hlim λmc q'1 h3=>?_;refine gb q'1 λo es n h1 h2=>?_;exact ⟨mc,⟨o,es,n,tV h1 (by decide),h2⟩,h3⟩
 gl:=by
  refine LB hg λmg o es n h1 h2=>?_;exact ⟨mg,o,es,n,tV h1 (by decide),h2⟩
 bl:=by
  refine aR hb λmb q'2 h3=>?_;refine gb q'2 λo es n h1 h2=>?_;exact ⟨mb,⟨o,es,n,tV h1 (by decide),h2⟩,h3⟩
theorem Wm{w h Y l ns vs hl hv hn hsys hlim hg hb}:xO (ctx w h Y l ns vs hl hv hn hsys hlim hg hb):=λC hC=>by
 obtain rfl:=aL.mp (show C∈ [55] from hC);refine ⟨ah "CycleError",ah "CycleError",54,[.type "ValueError"],[.type "ValueError",.type "Exception",.type "BaseException",.type "object"],ao,[],[],bc,ae,ae,_,_,_,_,_,"ValueError.__new__","ValueError.__init__","ValueError",_,tV (Y _ _ (MW _)) (by decide),PySem.F.excBase_ValueError,I9 (tV (Y _ _ (MX _)) (by decide)),CS _ _ (by exact fg)⟩
theorem Qj{ns:List Int}(h:Y2.pre.holds Y2.records {args:=[.list (ns.map .int)]}=ao):ns.length<=63:=by
 have e:Y2.pre= .and (.not (.lt (.lit (.int 63)) (.len (.arg 0)))) (.lit (.bool ao)):=by rfl
 rw [e] at h;dsimp only [WTm.holds] at h;dsimp only [WTm.value,List.getElem?_cons_zero] at h;have hl:less? (vT 63) (vT ((ns.map vT).length:Nat))=af (decide ((63:Int)<((ns.map vT).length:Nat))):=rfl;rw [hl] at h;by_cases hz:(63:Int)<((ns.map vT).length:Nat)
 ·rw [decide_eq_true hz] at h;injection h
 ·rw [aH] at hz;exact jd.mp (mP.mp hz)
theorem T7(aA:∀(P:eR) (l:bj) (ns:List Int),l≠160->l≠149->ns.length<=63->∃os',callC (Kw P) (cR l ns) [55] 200 20 (.top 254) [.top l] [] []=af (.ret (.bool ao),os')):dQ.Holds:=by
 refine Wi λw s_0 s₁ mg mb G Y a o pm cd doc dV kV ha hd hcode hdf hmg hg args vals as hpre hlay hrd XQ hsys=>?_;obtain ⟨hp1,hp2⟩:=pre_splitW hpre;obtain ⟨ns,rfl⟩:=MT hp1;have hlen:=Qj hp2;refine ck (KJ XQ) λl vs q'3 hl hv=>?_;obtain rfl:=q'3;have Y':(KF w.params).In s₁.heap:=Y;have ZT:nsIn (KF w.params) gm "law" =af (af (.ref 254)):=by kernel_rfl
 have ha':a=254:=by
  have:=mg_of Y' G.T.g ZT;rw [show mg "law" =af (.ref a) from hmg] at this;obtain ⟨⟩:=this;rfl
 subst ha';have XR:(l==sysModules)=bc:=by
  refine hsys l ?_;cases hrd with
  |cons r1 r2=>cases r1 with|list h1 h2 h3 h4=>exact fg
 let B:=ctx w s₁.heap Y' l ns vs hl hv hlen XR G.T.nolimit ⟨mg,G.T.g⟩ ⟨mb,G.T.b,G.T.builtins⟩
 have ne:∀(k:bj) (ob:Obj),(KF w.params).lookup k=af ob->ob.cls≠ .type "list" ->l≠k:=λk ob hk hc q=>by
  subst q;have:=Y' _ _ hk;rw [hl] at this;have hq:=congrArg Obj.cls (t5 this);exact hc hq.symm
 obtain ⟨os',hcall⟩:=aA w.params l ns (ne 160 _ (I6 _) (by intro h;have h':gB "dict" =gB "list" :=h;injection h' with h';exact absurd h' (by decide))) (ne 149 _ (I7 _) (by intro h;have h':gB "set" =gB "list" :=h;injection h' with h';exact absurd h' (by decide))) hlen;obtain ⟨m24,ZU⟩:=T6 (Y' _ _ (MY _));have hfd:∃t d fd sl,B.K.lookup 254=af ⟨t,d,.func fd,sl⟩:=by
  have:((Kw w.params).lookup 254).any (λo=>match o.data with| .func _=>ao|_=>bc)=ao:=by kernel_rfl
  induction hq:(Kw w.params).lookup 254 using aw with
  |none=>rw [hq] at this;injection this
  |some ob=>
   rw [hq] at this;obtain ⟨t,d,dt,sl⟩:=ob;obtain ⟨⟩:=dt<;>first|exact ⟨_,_,_,_,hq⟩|injection this
 refine gH hfd λt d fd sl hK=>?_;refine TP B Wm (n:=19) (fuel:=200) hK (Xa:=24) (m:=m24) (λb o e=>Wj e) ZU Qi hg (as:=[.top l]) ⟨rfl,trivial⟩ (by decide) (by decide) hcall λs' hk hgs hos=>?_;refine ⟨.inl ⟨.bool ao,.bool ao,[],rfl,λcls=>by rfl,.bool ao,by wrow_post,λ_=>⟨dy,λa h=>nomatch h⟩⟩,.of_keep hk,hos,.of_eq (hgs.trans hg)⟩
abbrev zG:=V->List V->List O->List Nat->Option (CR × List O)
def cx(P:eR)(aj:List (bj × O))(cQ:zG)(hd:Bool):Cx:=⟨Kw P,aj,cQ,200,hd,[55]⟩
@[reducible] def cN(P:eR)(aj:List (bj × O)):Nat->zG:=callC (Kw P) aj [55] 200
@[reducible] def cy(P:eR)(aj:List (bj × O))(n:Nat):Cx:=cx P aj (cN P aj n) ao
def setM(x:Str)(v:V):M Unit:=λ_ s=>af ((),{s with fr:=putF s.fr x v})
noncomputable def goM:List Str->List V->M Unit
 |x::xs,v::vs=>setM x v>>=λ_=>goM xs vs
 | [],[]=>aA ()
 |_,_=>fail
def DJ(c:Cx)(xs:List Str)(v:V):M Unit:=el c v>>=λob=>e9 ob.uA λvs=>if vs.length=xs.length then goM xs vs else fail
noncomputable def fe(l:List (Str × Option V)):eB:=l.filterMap λp=>p.2.map λv=>(p.1,v)
def fc(ups:eB->eB)(body:eB->Nat->Src->M Unit)(src:Src):M V:=alloc (.list [])>>=λacc=>e9 acc.ny λi z s=>(body (ups s.fr) i src z ⟨[],s.os⟩).map λr=>(acc,⟨s.fr,r.2.os⟩)
@[reducible] def eK(v:V):M (List V):=aA []>>=λvs=>aA (v::vs)
@[reducible] def mx(_:α):M Unit:=aA ()
@[reducible] def jH(_:α):M Fl:=aA bo
@[reducible] def pg(v:V):M Fl:=aA (Fl.ret v)
section
variable(P:eR)(aj:List (bj × O))(n:Nat)(c d:Cx)
def ic:M Fl:=
 (seqM ((bw "node")>>=λv=>(((bw "self")>>=λov=>d8 c ov "node" v)>>=mx)>>=jH)
  (seqM ((aA (bD (0)))>>=λv=>(((bw "self")>>=λov=>d8 c ov "npredecessors" v)>>=mx)>>=jH)
  (seqM (((aA [])>>=λvs=>alloc (.list vs))>>=λv=>(((bw "self")>>=λov=>d8 c ov "successors" v)>>=mx)>>=jH)
  (aA bo))))
def q6:M Fl:=
 (seqM ((alloc (.dict []))>>=λv=>(((bw "self")>>=λov=>d8 c ov "_node2info" v)>>=mx)>>=jH)
  (seqM ((aA fU)>>=λv=>(((bw "self")>>=λov=>d8 c ov "_ready_nodes" v)>>=mx)>>=jH)
  (seqM ((aA (bD (0)))>>=λv=>(((bw "self")>>=λov=>d8 c ov "_npassedout" v)>>=mx)>>=jH)
  (seqM ((aA (bD (0)))>>=λv=>(((bw "self")>>=λov=>d8 c ov "_nfinished" v)>>=mx)>>=jH)
  (seqM ((((bw "graph")>>=λa=>(aA fU)>>=λb=>cmpC c vn a b)>>=cV c)>>=λt=>if t=ao then (seqM fail
  (aA bo)) else (aA bo))
  (aA bo))))))
def lx:M Fl:=
 (seqM (((((((bw "self")>>=λov=>eD c ov "_node2info")>>=λov=>ew c ov "get" >>=λm=>((bw "node")>>=eK)>>=λas=>eJ c ov m as>>=ec)>>=λv=>setM "result" v>>=λ_=>aA v)>>=λa=>(aA fU)>>=λb=>cmpC c sE a b)>>=cV c)>>=λt=>if t=ao then (seqM ((((bw "node")>>=eK)>>=λas=>dN c (qS 40) as>>=ec)>>=λv=>((((bw "self")>>=λov=>eD c ov "_node2info")>>=λov=>(bw "node")>>=λiv=>nA c ov iv v)>>=λ_=>(setM "result" v>>=λ_=>(aA ())))>>=jH)
  (aA bo)) else (aA bo))
  (seqM ((bw "result")>>=pg)
  (aA bo)))
theorem oc(v0 v1:V)(os:List O)(z:List Nat):cN P aj (n+1) (.top 80) [v0,v1] os z=nB (lx (cy P aj n) z ⟨[("self",v0),("node",v1)],os⟩):=by kernel_rfl
def ph(v:V):M Fl:=
 setM "pred" v>>=λ_=>(seqM (((bw "self")>>=λov=>ew c ov "_get_nodeinfo" >>=λm=>((bw "pred")>>=eK)>>=λas=>eJ c ov m as>>=ec)>>=λv=>(setM "pred_info" v>>=mx)>>=jH)
  (seqM ((((bw "pred_info")>>=λov=>eD c ov "successors")>>=λov=>ew c ov "append" >>=λm=>((bw "node")>>=eK)>>=λas=>eJ c ov m as>>=ec)>>=jH)
  (aA bo)))
def xP:M Fl:=
 (seqM (((((bw "self")>>=λov=>eD c ov "_ready_nodes")>>=λa=>(aA fU)>>=λb=>cmpC c vn a b)>>=cV c)>>=λt=>if t=ao then (seqM fail
  (aA bo)) else (aA bo))
  (seqM (((bw "self")>>=λov=>ew c ov "_get_nodeinfo" >>=λm=>((bw "node")>>=eK)>>=λas=>eJ c ov m as>>=ec)>>=λv=>(setM "nodeinfo" v>>=mx)>>=jH)
  (seqM ((bw "nodeinfo")>>=λov=>eD c ov "npredecessors" >>=λold=>(((bw "predecessors")>>=eK)>>=λas=>dN c (zm "len") as>>=ec)>>=λv=>EP fH old v>>=λnew=>d8 c ov "npredecessors" new>>=jH)
  (seqM ((bw "predecessors")>>=λv=>gI c v>>=λsrc=>dh src.fz (fQ (λv=>ph c v) src.items))
  (aA bo)))))
def fx(uq:eB)(acc:Nat)(v:V):M Unit:=
 setM "i" v>>=λ_=>(((((bw "i")>>=λov=>eD c ov "npredecessors")>>=λa=>(aA (bD (0)))>>=λb=>cmpC c kT a b)>>=cV c)>>=λt=>if t=ao then (aA ao) else aA bc)>>=λt=>if t=ao then (((bw "i")>>=λov=>eD c ov "node")>>=λv=>i4 c acc v) else aA ()
def uP(uq:eB)(acc:Nat)(src:Src):M Unit:=
 dh src.fz (fj (λv=>fx c uq acc v) src.items)
def lM:M Fl:=
 (seqM (((((bw "self")>>=λov=>eD c ov "_ready_nodes")>>=λa=>(aA fU)>>=λb=>cmpC c vn a b)>>=cV c)>>=λt=>if t=ao then (seqM fail
  (aA bo)) else (aA bo))
  (seqM (((((bw "self")>>=λov=>eD c ov "_node2info")>>=λov=>ew c ov "values" >>=λm=>(aA [])>>=λas=>eJ c ov m as>>=ec)>>=λit=>gI c it>>=λsrc=>fc (λfr=>fe []) (λuq i src=>uP c uq i src) src)>>=λv=>(((bw "self")>>=λov=>d8 c ov "_ready_nodes" v)>>=mx)>>=jH)
  (seqM (((bw "self")>>=λov=>ew c ov "_find_cycle" >>=λm=>(aA [])>>=λas=>eJ c ov m as>>=ec)>>=λv=>(setM "cycle" v>>=mx)>>=jH)
  (seqM (((bw "cycle")>>=cV c)>>=λt=>if t=ao then (seqM (((aA (bp "nodes are in a cycle"))>>=λv=>((bw "cycle")>>=eK)>>=λvs=>aA (v::vs))>>=λas=>G5 55 as)
  (aA bo)) else (aA bo))
  (aA bo)))))
theorem Ce(v0:V)(os:List O)(z:List Nat):cN P aj (n+1) (.top 92) [v0] os z=nB (lM (cy P aj n) z ⟨[("self",v0)],os⟩):=by kernel_rfl
def gQ(v:V):M Fl:=
 setM "node" v>>=λ_=>(seqM ((aA (bD (-1)))>>=λv=>((((bw "n2i")>>=λov=>(bw "node")>>=λiv=>d0 c ov iv)>>=λov=>d8 c ov "npredecessors" v)>>=mx)>>=jH)
  (aA bo))
def pj:M Fl:=
 (seqM (((((bw "self")>>=λov=>eD c ov "_ready_nodes")>>=λa=>(aA fU)>>=λb=>cmpC c sE a b)>>=cV c)>>=λt=>if t=ao then (seqM fail
  (aA bo)) else (aA bo))
  (seqM (((((bw "self")>>=λov=>eD c ov "_ready_nodes")>>=eK)>>=λas=>dN c (qc "tuple") as>>=ec)>>=λv=>(setM "result" v>>=mx)>>=jH)
  (seqM (((bw "self")>>=λov=>eD c ov "_node2info")>>=λv=>(setM "n2i" v>>=mx)>>=jH)
  (seqM ((bw "result")>>=λv=>gI c v>>=λsrc=>dh src.fz (fQ (λv=>gQ c v) src.items))
  (seqM ((((bw "self")>>=λov=>eD c ov "_ready_nodes")>>=λov=>ew c ov "clear" >>=λm=>(aA [])>>=λas=>eJ c ov m as>>=ec)>>=jH)
  (seqM ((bw "self")>>=λov=>eD c ov "_npassedout" >>=λold=>(((bw "result")>>=eK)>>=λas=>dN c (zm "len") as>>=ec)>>=λv=>EP fH old v>>=λnew=>d8 c ov "_npassedout" new>>=jH)
  (seqM ((bw "result")>>=pg)
  (aA bo))))))))
theorem zU(v0:V)(os:List O)(z:List Nat):cN P aj (n+1) (.top 99) [v0] os z=nB (pj (cy P aj n) z ⟨[("self",v0)],os⟩):=by kernel_rfl
def lN:M Fl:=
 (seqM (((((bw "self")>>=λov=>eD c ov "_ready_nodes")>>=λa=>(aA fU)>>=λb=>cmpC c sE a b)>>=cV c)>>=λt=>if t=ao then (seqM fail
  (aA bo)) else (aA bo))
  (seqM (((((bw "self")>>=λov=>eD c ov "_nfinished")>>=λa=>((bw "self")>>=λov=>eD c ov "_npassedout")>>=λb=>cmpC c CmpOp.Lt a b)>>=λx=>cV c x>>=λt=>if t=ao then aA x else ((((bw "self")>>=λov=>eD c ov "_ready_nodes")>>=eK)>>=λas=>dN c (qc "bool") as>>=ec))>>=pg)
  (aA bo)))
theorem zV(v0:V)(os:List O)(z:List Nat):cN P aj (n+1) (.top 106) [v0] os z=nB (lN (cy P aj n) z ⟨[("self",v0)],os⟩):=by kernel_rfl
def ie(v:V):M Fl:=
 setM "successor" v>>=λ_=>(seqM (((bw "n2i")>>=λov=>(bw "successor")>>=λiv=>d0 c ov iv)>>=λv=>(setM "successor_info" v>>=mx)>>=jH)
  (seqM ((bw "successor_info")>>=λov=>eD c ov "npredecessors" >>=λold=>(aA (bD (1)))>>=λv=>EP yC old v>>=λnew=>d8 c ov "npredecessors" new>>=jH)
  (seqM (((((bw "successor_info")>>=λov=>eD c ov "npredecessors")>>=λa=>(aA (bD (0)))>>=λb=>cmpC c kT a b)>>=cV c)>>=λt=>if t=ao then (seqM ((((bw "self")>>=λov=>eD c ov "_ready_nodes")>>=λov=>ew c ov "append" >>=λm=>((bw "successor")>>=eK)>>=λas=>eJ c ov m as>>=ec)>>=jH)
  (aA bo)) else (aA bo))
  (aA bo))))
def lC(v:V):M Fl:=
 setM "node" v>>=λ_=>(seqM ((((((bw "n2i")>>=λov=>ew c ov "get" >>=λm=>((bw "node")>>=eK)>>=λas=>eJ c ov m as>>=ec)>>=λv=>setM "nodeinfo" v>>=λ_=>aA v)>>=λa=>(aA fU)>>=λb=>cmpC c sE a b)>>=cV c)>>=λt=>if t=ao then (seqM fail
  (aA bo)) else (aA bo))
  (seqM (((bw "nodeinfo")>>=λov=>eD c ov "npredecessors")>>=λv=>(setM "stat" v>>=mx)>>=jH)
  (seqM ((((bw "stat")>>=λa=>(aA (bD (-1)))>>=λb=>cmpC c vp a b)>>=cV c)>>=λt=>if t=ao then (seqM ((((bw "stat")>>=λa=>(aA (bD (0)))>>=λb=>cmpC c CmpOp.GtE a b)>>=cV c)>>=λt=>if t=ao then (seqM fail
  (aA bo)) else (seqM ((((bw "stat")>>=λa=>(aA (bD (-2)))>>=λb=>cmpC c kT a b)>>=cV c)>>=λt=>if t=ao then (seqM fail
  (aA bo)) else (seqM fail
  (aA bo)))
  (aA bo)))
  (aA bo)) else (aA bo))
  (seqM ((aA (bD (-2)))>>=λv=>(((bw "nodeinfo")>>=λov=>d8 c ov "npredecessors" v)>>=mx)>>=jH)
  (seqM (((bw "nodeinfo")>>=λov=>eD c ov "successors")>>=λv=>gI c v>>=λsrc=>dh src.fz (fQ (λv=>ie c v) src.items))
  (seqM ((bw "self")>>=λov=>eD c ov "_nfinished" >>=λold=>(aA (bD (1)))>>=λv=>EP fH old v>>=λnew=>d8 c ov "_nfinished" new>>=jH)
  (aA bo)))))))
def yV:M Fl:=
 (seqM (((((bw "self")>>=λov=>eD c ov "_ready_nodes")>>=λa=>(aA fU)>>=λb=>cmpC c sE a b)>>=cV c)>>=λt=>if t=ao then (seqM fail
  (aA bo)) else (aA bo))
  (seqM (((bw "self")>>=λov=>eD c ov "_node2info")>>=λv=>(setM "n2i" v>>=mx)>>=jH)
  (seqM ((bw "nodes")>>=λv=>gI c v>>=λsrc=>dh src.fz (fQ (λv=>lC c v) src.items))
  (aA bo))))
def i9:M Bool:=
 ((aA (BQ ao))>>=cV c)
def ja:M Bool:=
 ((bw "stack")>>=cV c)
def pk:M Fl:=
 (seqM (aA Fl.brk)
  (aA bo))
def pn:M Fl:=
 (seqM ((bw "node2stacki")>>=λov=>((bw "stack")>>=λov=>ew c ov "pop" >>=λm=>(aA [])>>=λas=>eJ c ov m as>>=ec)>>=λiv=>xy c ov iv>>=jH)
  (seqM (((bw "itstack")>>=λov=>ew c ov "pop" >>=λm=>(aA [])>>=λas=>eJ c ov m as>>=ec)>>=jH)
  (aA bo)))
def fR:M Fl:=
 (seqM (((bw "itstack")>>=λov=>((aA (bD (1)))>>=GZ)>>=λiv=>d0 c ov iv)>>=λfv=>uF c (setM "node") (pk) (pn d) fv)
  (aA bo))
def dq:M Fl:=
 (seqM ((((bw "node")>>=λa=>(bw "seen")>>=λb=>cmpC c kc a b)>>=cV c)>>=λt=>if t=ao then (seqM ((((bw "node")>>=λa=>(bw "node2stacki")>>=λb=>cmpC c kc a b)>>=cV c)>>=λt=>if t=ao then (seqM ((((bw "stack")>>=λov=>((bw "node2stacki")>>=λov=>(bw "node")>>=λiv=>d0 c ov iv)>>=λlv=>(aA fU)>>=λuv=>(aA fU)>>=λsv=>lJ c ov lv uv sv)>>=λa=>(((bw "node")>>=eK)>>=λvs=>alloc (.list vs))>>=λb=>binC c fH a b)>>=pg)
  (aA bo)) else (aA bo))
  (aA bo)) else (seqM (((bw "seen")>>=λov=>ew c ov "add" >>=λm=>((bw "node")>>=eK)>>=λas=>eJ c ov m as>>=ec)>>=jH)
  (seqM (((bw "itstack")>>=λov=>ew c ov "append" >>=λm=>(((((((bw "n2i")>>=λov=>(bw "node")>>=λiv=>d0 c ov iv)>>=λov=>eD c ov "successors")>>=eK)>>=λas=>dN c (zm "iter") as>>=ec)>>=λov=>eD c ov "__next__")>>=eK)>>=λas=>eJ c ov m as>>=ec)>>=jH)
  (seqM ((((bw "stack")>>=eK)>>=λas=>dN c (zm "len") as>>=ec)>>=λv=>(((bw "node2stacki")>>=λov=>(bw "node")>>=λiv=>nA c ov iv v)>>=mx)>>=jH)
  (seqM (((bw "stack")>>=λov=>ew c ov "append" >>=λm=>((bw "node")>>=eK)>>=λas=>eJ c ov m as>>=ec)>>=jH)
  (aA bo))))))
  (seqM (g9 (ja c) (fR c d) (seqM (aA Fl.brk)
  (aA bo)) 200)
  (aA bo)))
def cY(v:V):M Fl:=
 setM "node" v>>=λ_=>(seqM ((((bw "node")>>=λa=>(bw "seen")>>=λb=>cmpC c kc a b)>>=cV c)>>=λt=>if t=ao then (seqM (aA Fl.cont)
  (aA bo)) else (aA bo))
  (seqM (g9 (i9 c) (dq c d) (aA bo) 200)
  (aA bo)))
def iS:M Fl:=
 (seqM (((bw "self")>>=λov=>eD c ov "_node2info")>>=λv=>(setM "n2i" v>>=mx)>>=jH)
  (seqM (((aA [])>>=λvs=>alloc (.list vs))>>=λv=>(setM "stack" v>>=mx)>>=jH)
  (seqM (((aA [])>>=λvs=>alloc (.list vs))>>=λv=>(setM "itstack" v>>=mx)>>=jH)
  (seqM (((aA [])>>=λas=>dN c (qc "set") as>>=ec)>>=λv=>(setM "seen" v>>=mx)>>=jH)
  (seqM ((alloc (.dict []))>>=λv=>(setM "node2stacki" v>>=mx)>>=jH)
  (seqM ((bw "n2i")>>=λv=>gI c v>>=λsrc=>dh src.fz (fQ (λv=>cY c d v) src.items))
  (seqM ((aA fU)>>=pg)
  (aA bo))))))))
theorem xQ(v0:V)(os:List O)(z:List Nat):cN P aj (n+1) (.top 127) [v0] os z=nB (iS (cy P aj n) (cx P aj (cN P aj n) bc) z ⟨[("self",v0)],os⟩):=by kernel_rfl
def wd:M Fl:=
 (seqM (((((bw "code")>>=eK)>>=λas=>dN c (zm "ord") as>>=ec)>>=λa=>(aA (qS 149))>>=λb=>cmpC c kc a b)>>=pg)
  (aA bo))
theorem A6(v0:V)(os:List O)(z:List Nat):cN P aj (n+1) (.top 159) [v0] os z=nB (wd (cy P aj n) z ⟨[("code",v0)],os⟩):=by kernel_rfl
def pq:M Fl:=
 (seqM (((aA (qS 160))>>=λov=>ew c ov "get" >>=λm=>((((bw "code")>>=eK)>>=λas=>dN c (zm "ord") as>>=ec)>>=eK)>>=λas=>eJ c ov m as>>=ec)>>=λv=>(setM "r" v>>=mx)>>=jH)
  (seqM ((((bw "r")>>=λa=>(aA fU)>>=λb=>cmpC c vn a b)>>=cV c)>>=λt=>if t=ao then (seqM ((bw "r")>>=pg)
  (aA bo)) else (aA bo))
  (seqM (((bw "code")>>=λov=>ew c ov "lower" >>=λm=>(aA [])>>=λas=>eJ c ov m as>>=ec)>>=pg)
  (aA bo))))
theorem zW(v0:V)(os:List O)(z:List Nat):cN P aj (n+1) (.top 205) [v0] os z=nB (pq (cy P aj n) z ⟨[("code",v0)],os⟩):=by kernel_rfl
def pz(uq:eB)(acc:Nat)(v:V):M Unit:=
 setM "x" v>>=λ_=>(aA ao)>>=λt=>if t=ao then (((bw "x")>>=λa=>(aA (bD (80)))>>=λb=>binC c oM a b)>>=λv=>i4 c acc v) else aA ()
def pA(uq:eB)(acc:Nat)(src:Src):M Unit:=
 dh src.fz (fj (λv=>pz c uq acc v) src.items)
def xR:M Fl:=
 (seqM ((((bw "script")>>=λov=>(aA fU)>>=λlv=>(aA (bD (12)))>>=λuv=>(aA fU)>>=λsv=>lJ c ov lv uv sv)>>=λit=>gI c it>>=λsrc=>fc (λfr=>fe []) (λuq i src=>pA c uq i src) src)>>=λv=>(setM "draws" v>>=mx)>>=jH)
  (seqM (((bw "draws")>>=λa=>(((aA [(bD (9)),(bD (72)),(bD (4)),(bD (18)),(bD (5)),(bD (15)),(bD (6)),(bD (75)),(bD (61)),(bD (64)),(bD (66)),(bD (2))])>>=λvs=>alloc (.list vs))>>=λov=>(((bw "draws")>>=eK)>>=λas=>dN c (zm "len") as>>=ec)>>=λlv=>(aA fU)>>=λuv=>(aA fU)>>=λsv=>lJ c ov lv uv sv)>>=λb=>binC c fH a b)>>=pg)
  (aA bo)))
theorem Cf(v0:V)(os:List O)(z:List Nat):cN P aj (n+1) (.top 210) [v0] os z=nB (xR (cy P aj n) z ⟨[("script",v0)],os⟩):=by kernel_rfl
def qC:M Fl:=
 (seqM ((((((((aA [(bD (173)),(bD (847)),(bD (6150)),(bD (8203)),(bD (8205)),(bD (8288)),(bD (65024)),(bD (65279))])>>=λvs=>alloc (.list vs))>>=λov=>((bw "draw")>>=λa=>(aA (bD (8)))>>=λb=>binC c oM a b)>>=λiv=>d0 c ov iv)>>=eK)>>=λas=>dN c (zm "chr") as>>=ec)>>=λv=>((aA (bp ""))>>=eK)>>=λvs=>aA (v::vs))>>=λvs=>alloc (.tuple vs))>>=pg)
  (aA bo))
def jL:M Fl:=
 (seqM ((((bw "dress")>>=λa=>(aA (bD (8)))>>=λb=>cmpC c kT a b)>>=cV c)>>=λt=>if t=ao then (seqM ((((((aA [(bD (13187)),(bD (13189)),(bD (8451)),(bD (8517)),(bD (13188)),(bD (13190)),(bD (13184)),(bD (13169))])>>=λvs=>alloc (.list vs))>>=λov=>((bw "draw")>>=λa=>(aA (bD (8)))>>=λb=>binC c oM a b)>>=λiv=>d0 c ov iv)>>=eK)>>=λas=>dN c (zm "chr") as>>=ec)>>=λv=>(setM "sign" v>>=mx)>>=jH)
  (seqM ((((bw "sign")>>=λv=>(((((aA (bp "ma"))>>=λv=>((aA (bp "kb"))>>=λv=>(((((aA (bD (176)))>>=eK)>>=λas=>dN c (zm "chr") as>>=ec)>>=λa=>(aA (bp "c"))>>=λb=>binC c fH a b)>>=λv=>(aA [(bp "d"),(bp "ka"),(bp "mb"),(bp "pa"),(bp "hpa")])>>=λvs=>aA (v::vs))>>=λvs=>aA (v::vs))>>=λvs=>aA (v::vs))>>=λvs=>alloc (.list vs))>>=λov=>((bw "draw")>>=λa=>(aA (bD (8)))>>=λb=>binC c oM a b)>>=λiv=>d0 c ov iv)>>=eK)>>=λvs=>aA (v::vs))>>=λvs=>alloc (.tuple vs))>>=pg)
  (aA bo))) else (aA bo))
  (qC c))
def jM:M Fl:=
 (seqM ((((bw "dress")>>=λa=>(aA (bD (8)))>>=λb=>cmpC c CmpOp.Lt a b)>>=cV c)>>=λt=>if t=ao then (seqM ((((((((aA (bD (119808)))>>=λa=>((aA (bD (52)))>>=λa=>(((aA [(bD (0)),(bD (1)),(bD (2)),(bD (4)),(bD (7)),(bD (12))])>>=λvs=>alloc (.list vs))>>=λov=>((bw "dress")>>=λa=>(aA (bD (2)))>>=λb=>binC c yC a b)>>=λiv=>d0 c ov iv)>>=λb=>binC c Operator.Mult a b)>>=λb=>binC c fH a b)>>=λa=>(bw "place")>>=λb=>binC c fH a b)>>=eK)>>=λas=>dN c (zm "chr") as>>=ec)>>=λv=>((bw "letter")>>=eK)>>=λvs=>aA (v::vs))>>=λvs=>alloc (.tuple vs))>>=pg)
  (aA bo)) else (aA bo))
  (jL c))
def jN:M Fl:=
 (seqM ((((bw "dress")>>=λa=>(aA (bD (1)))>>=λb=>cmpC c kT a b)>>=cV c)>>=λt=>if t=ao then (seqM (((((((aA (bD (65)))>>=λa=>(bw "place")>>=λb=>binC c fH a b)>>=eK)>>=λas=>dN c (zm "chr") as>>=ec)>>=λv=>((bw "letter")>>=eK)>>=λvs=>aA (v::vs))>>=λvs=>alloc (.tuple vs))>>=pg)
  (aA bo)) else (aA bo))
  (jM c))
def jO:M Fl:=
 (seqM ((((bw "dress")>>=λa=>(aA (bD (0)))>>=λb=>cmpC c kT a b)>>=cV c)>>=λt=>if t=ao then (seqM ((((bw "letter")>>=λv=>((bw "letter")>>=eK)>>=λvs=>aA (v::vs))>>=λvs=>alloc (.tuple vs))>>=pg)
  (aA bo)) else (aA bo))
  (jN c))
def qD:M Fl:=
 (seqM (((bw "draw")>>=λa=>(aA (bD (8)))>>=λb=>binC c Operator.FloorDiv a b)>>=λv=>(setM "dress" v>>=mx)>>=jH)
  (jO c))
def qE:M Fl:=
 (seqM (((((bw "letter")>>=eK)>>=λas=>dN c (zm "ord") as>>=ec)>>=λa=>(aA (bD (97)))>>=λb=>binC c yC a b)>>=λv=>(setM "place" v>>=mx)>>=jH)
  (qD c))
def iT:M Fl:=
 (seqM (((aA (bp "abcdklpz"))>>=λov=>((bw "draw")>>=λa=>(aA (bD (8)))>>=λb=>binC c oM a b)>>=λiv=>d0 c ov iv)>>=λv=>(setM "letter" v>>=mx)>>=jH)
  (qE c))
theorem zX(v0:V)(os:List O)(z:List Nat):cN P aj (n+1) (.top 217) [v0] os z=nB (iT (cy P aj n) z ⟨[("draw",v0)],os⟩):=by kernel_rfl
def mZ(uq:eB)(acc:Nat)(v:V):M Unit:=
 setM "sign" v>>=λ_=>((((((bw "sign")>>=eK)>>=λas=>dN c (qS 159) as>>=ec)>>=λa=>(aA (BQ bc))>>=λb=>cmpC c sE a b)>>=cV c)>>=λt=>if t=ao then (aA ao) else aA bc)>>=λt=>if t=ao then ((((bw "sign")>>=eK)>>=λas=>dN c (qS 205) as>>=ec)>>=λv=>i4 c acc v) else aA ()
def m9(uq:eB)(acc:Nat)(src:Src):M Unit:=
 dh src.fz (fj (λv=>mZ c uq acc v) src.items)
def zH:M Fl:=
 (seqM (((aA (bp ""))>>=λov=>ew c ov "join" >>=λm=>(((bw "text")>>=λit=>gI c it>>=λsrc=>fc (λfr=>fe []) (λuq i src=>m9 c uq i src) src)>>=eK)>>=λas=>eJ c ov m as>>=ec)>>=pg)
  (aA bo))
theorem DK(v0:V)(os:List O)(z:List Nat):cN P aj (n+1) (.top 222) [v0] os z=nB (zH (cy P aj n) z ⟨[("text",v0)],os⟩):=by kernel_rfl
def qF:M V:=
 (((aA (bp "ring"))>>=λv=>((((bw "error")>>=λov=>eD c ov "args")>>=λov=>(aA (bD (1)))>>=λiv=>d0 c ov iv)>>=eK)>>=λvs=>aA (v::vs))>>=λvs=>alloc (.tuple vs))
def js:M Fl:=
 (seqM ((bw "sorter")>>=λov=>ew c ov "prepare" >>=λm=>eJ c ov m []>>=λr=>z7 c (setM "error") (aA (qS 55)) (qF d) r)
  (aA bo))
theorem yW(v0:V)(os:List O)(z:List Nat):cN P aj (n+1) (.top 229) [v0] os z=nB (js (cy P aj n) (cx P aj (cN P aj n) bc) z ⟨[("sorter",v0)],os⟩):=by kernel_rfl
def ow(uq:eB)(acc:Nat)(v:V):M Unit:=
 setM "sign" v>>=λ_=>((((bw "sign")>>=λa=>(aA (bp "abcd"))>>=λb=>cmpC c kc a b)>>=cV c)>>=λt=>if t=ao then (aA ao) else aA bc)>>=λt=>if t=ao then ((bw "sign")>>=λv=>i4 c acc v) else aA ()
def s9(uq:eB)(acc:Nat)(src:Src):M Unit:=
 dh src.fz (fj (λv=>ow c uq acc v) src.items)
def km(v:V):M Fl:=
 setM "i" v>>=λ_=>(seqM (((bw "sorter")>>=λov=>ew c ov "add" >>=λm=>if m.isFn=ao then (((aA (bp "abcd"))>>=λov=>(bw "i")>>=λiv=>d0 c ov iv)>>=λv=>((((bw "texts")>>=λov=>(bw "i")>>=λiv=>d0 c ov iv)>>=λit=>gI c it>>=λsrc=>fc (λfr=>fe []) (λuq i src=>s9 c uq i src) src)>>=λv=>zA c v)>>=λvs=>aA (v::vs))>>=λas=>eJ c ov m as>>=ec else ((fail:M Unit)>>=λ_=>(((aA (bp "abcd"))>>=λov=>(bw "i")>>=λiv=>d0 c ov iv)>>=λv=>((((bw "texts")>>=λov=>(bw "i")>>=λiv=>d0 c ov iv)>>=λit=>gI c it>>=λsrc=>fc (λfr=>fe []) (λuq i src=>s9 c uq i src) src)>>=λv=>zA c v)>>=λvs=>aA (v::vs))>>=λas=>eJ c ov m as>>=ec))>>=jH)
  (aA bo))
def lO:M Bool:=
 (((bw "sorter")>>=λov=>ew c ov "is_active" >>=λm=>(aA [])>>=λas=>eJ c ov m as>>=ec)>>=cV c)
def oy(uq:eB)(acc:Nat)(v:V):M Unit:=
 setM "sign" v>>=λ_=>(aA ao)>>=λt=>if t=ao then (((((bw "sign")>>=λa=>(aA (bp "abcd"))>>=λb=>cmpC c kc a b)>>=cV c)>>=λt=>if t=ao then ((lift (getF uq "values"))>>=λov=>(bw "sign")>>=λiv=>d0 c ov iv) else (bw "sign"))>>=λv=>i4 c acc v) else aA ()
def td(uq:eB)(acc:Nat)(src:Src):M Unit:=
 dh src.fz (fj (λv=>oy c uq acc v) src.items)
def kn(v:V):M Fl:=
 setM "name" v>>=λ_=>(seqM (((bw "texts")>>=λov=>((aA (bp "abcd"))>>=λov=>ew c ov "index" >>=λm=>((bw "name")>>=eK)>>=λas=>eJ c ov m as>>=ec)>>=λiv=>d0 c ov iv)>>=λv=>(setM "text" v>>=mx)>>=jH)
  (seqM (((aA (bp ""))>>=λov=>ew c ov "join" >>=λm=>(((bw "text")>>=λit=>gI c it>>=λsrc=>fc (λfr=>fe [("values",getF fr "values")]) (λuq i src=>td c uq i src) src)>>=eK)>>=λas=>eJ c ov m as>>=ec)>>=λv=>(((bw "values")>>=λov=>(bw "name")>>=λiv=>nA c ov iv v)>>=mx)>>=jH)
  (aA bo)))
def oz:M Fl:=
 (seqM (((bw "sorter")>>=λov=>ew c ov "get_ready" >>=λm=>(aA [])>>=λas=>eJ c ov m as>>=ec)>>=λv=>(setM "group" v>>=mx)>>=jH)
  (seqM ((bw "group")>>=λv=>gI c v>>=λsrc=>dh src.fz (fQ (λv=>kn c v) src.items))
  (seqM (((bw "groups")>>=λov=>ew c ov "append" >>=λm=>((((bw "group")>>=eK)>>=λas=>dN c (zm "sorted") as>>=ec)>>=eK)>>=λas=>eJ c ov m as>>=ec)>>=jH)
  (seqM (((bw "sorter")>>=λov=>ew c ov "done" >>=λm=>if m.isFn=ao then ((bw "group")>>=λv=>zA c v)>>=λas=>eJ c ov m as>>=ec else ((fail:M Unit)>>=λ_=>((bw "group")>>=λv=>zA c v)>>=λas=>eJ c ov m as>>=ec))>>=jH)
  (aA bo)))))
def we:M Fl:=
 (seqM ((((bw "ring")>>=λv=>((bw "prepared")>>=λv=>((bw "groups")>>=λv=>((bw "values")>>=eK)>>=λvs=>aA (v::vs))>>=λvs=>aA (v::vs))>>=λvs=>aA (v::vs))>>=λvs=>alloc (.tuple vs))>>=pg)
  (aA bo))
def wg:M Fl:=
 (seqM (g9 (lO c) (oz c) (aA bo) 200)
  (we))
def wh:M Fl:=
 (seqM ((alloc (.dict []))>>=λv=>(setM "values" v>>=mx)>>=jH)
  (wg c))
def wi:M Fl:=
 (seqM (((aA [])>>=λvs=>alloc (.list vs))>>=λv=>(setM "groups" v>>=mx)>>=jH)
  (wh c))
def wj:M Fl:=
 (seqM ((((bw "sorter")>>=eK)>>=λas=>dN c (qS 229) as>>=ec)>>=λv=>(setM "prepared" v>>=mx)>>=jH)
  (wi c))
def wk:M Fl:=
 (seqM (((bw "sorter")>>=λov=>ew c ov "_find_cycle" >>=λm=>(aA [])>>=λas=>eJ c ov m as>>=ec)>>=λv=>(setM "ring" v>>=mx)>>=jH)
  (wj c))
def wm:M Fl:=
 (seqM ((((aA (bD (4)))>>=eK)>>=λas=>dN c (qc "range") as>>=ec)>>=λv=>gI c v>>=λsrc=>dh src.fz (fQ (λv=>km c v) src.items))
  (wk c))
def A7:M Fl:=
 (seqM (((aA [])>>=λas=>dN c (qS 137) as>>=ec)>>=λv=>(setM "sorter" v>>=mx)>>=jH)
  (wm c))
theorem Fs(v0:V)(os:List O)(z:List Nat):cN P aj (n+1) (.top 234) [v0] os z=nB (A7 (cy P aj n) z ⟨[("texts",v0)],os⟩):=by kernel_rfl
def kY(uq:eB)(acc:Nat)(v:V):M Unit:=
 setM "sign" v>>=λ_=>(aA ao)>>=λt=>if t=ao then (((((bw "sign")>>=λa=>(aA (bp "abcd"))>>=λb=>cmpC c kc a b)>>=cV c)>>=λt=>if t=ao then ((lift (getF uq "texts"))>>=λov=>((aA (bp "abcd"))>>=λov=>ew c ov "index" >>=λm=>((bw "sign")>>=eK)>>=λas=>eJ c ov m as>>=ec)>>=λiv=>d0 c ov iv) else (bw "sign"))>>=λv=>i4 c acc v) else aA ()
def nS(uq:eB)(acc:Nat)(src:Src):M Unit:=
 dh src.fz (fj (λv=>kY c uq acc v) src.items)
def kZ(uq:eB)(acc:Nat)(v:V):M Unit:=
 setM "sign" v>>=λ_=>((((bw "sign")>>=λa=>(aA (bp "abcd"))>>=λb=>cmpC c kc a b)>>=cV c)>>=λt=>if t=ao then (aA ao) else aA bc)>>=λt=>if t=ao then ((bw "sign")>>=λv=>i4 c acc v) else aA ()
def nT(uq:eB)(acc:Nat)(src:Src):M Unit:=
 dh src.fz (fj (λv=>kZ c uq acc v) src.items)
def fJ(v:V):M Fl:=
 setM "times" v>>=λ_=>(seqM (((aA (bp ""))>>=λov=>ew c ov "join" >>=λm=>(((bw "text")>>=λit=>gI c it>>=λsrc=>fc (λfr=>fe [("texts",getF fr "texts")]) (λuq i src=>nS c uq i src) src)>>=eK)>>=λas=>eJ c ov m as>>=ec)>>=λv=>(setM "text" v>>=mx)>>=jH)
  (seqM (((((bw "text")>>=λit=>gI c it>>=λsrc=>fc (λfr=>fe []) (λuq i src=>nT c uq i src) src)>>=λa=>((aA [])>>=λvs=>alloc (.list vs))>>=λb=>cmpC c kT a b)>>=cV c)>>=λt=>if t=ao then (seqM ((((bw "times")>>=λv=>((bw "text")>>=eK)>>=λvs=>aA (v::vs))>>=λvs=>alloc (.tuple vs))>>=pg)
  (aA bo)) else (aA bo))
  (aA bo)))
def q9:M Fl:=
 (seqM ((bw "name")>>=λv=>(setM "text" v>>=mx)>>=jH)
  (seqM ((((aA (bD (4)))>>=eK)>>=λas=>dN c (qc "range") as>>=ec)>>=λv=>gI c v>>=λsrc=>dh src.fz (fQ (λv=>fJ c v) src.items))
  (seqM ((((aA (bD (4)))>>=λv=>((aA (bp ""))>>=eK)>>=λvs=>aA (v::vs))>>=λvs=>alloc (.tuple vs))>>=pg)
  (aA bo))))
theorem A8(v0 v1:V)(os:List O)(z:List Nat):cN P aj (n+1) (.top 239) [v0,v1] os z=nB (q9 (cy P aj n) z ⟨[("texts",v0),("name",v1)],os⟩):=by kernel_rfl
def nc(uq:eB)(acc:Nat)(v:V):M Unit:=
 setM "i" v>>=λ_=>((((lift (getF uq "name"))>>=λa=>((lift (getF uq "texts"))>>=λov=>(bw "i")>>=λiv=>d0 c ov iv)>>=λb=>cmpC c kc a b)>>=cV c)>>=λt=>if t=ao then (aA ao) else aA bc)>>=λt=>if t=ao then (((aA (bp "abcd"))>>=λov=>(bw "i")>>=λiv=>d0 c ov iv)>>=λv=>i4 c acc v) else aA ()
def rf(uq:eB)(acc:Nat)(src:Src):M Unit:=
 dh src.fz (fj (λv=>nc c uq acc v) src.items)
def jD(v:V):M Fl:=
 setM "name" v>>=λ_=>(seqM (((((aA (bD (4)))>>=eK)>>=λas=>dN c (qc "range") as>>=ec)>>=λit=>gI c it>>=λsrc=>fc (λfr=>fe [("name",getF fr "name"),("texts",getF fr "texts")]) (λuq i src=>rf c uq i src) src)>>=λv=>(((bw "users")>>=λov=>(bw "name")>>=λiv=>nA c ov iv v)>>=mx)>>=jH)
  (aA bo))
def nf(uq:eB)(acc:Nat)(v:V):M Unit:=
 setM "user" v>>=λ_=>((((bw "user")>>=λa=>(lift (getF uq "live"))>>=λb=>cmpC c kc a b)>>=cV c)>>=λt=>if t=ao then (aA ao) else aA bc)>>=λt=>if t=ao then ((bw "user")>>=λv=>i4 c acc v) else aA ()
def wo(uq:eB)(acc:Nat)(src:Src):M Unit:=
 dh src.fz (fj (λv=>nf c uq acc v) src.items)
def ng(uq:eB)(acc:Nat)(v:V):M Unit:=
 setM "name" v>>=λ_=>((((((lift (getF uq "users"))>>=λov=>(bw "name")>>=λiv=>d0 c ov iv)>>=λit=>gI c it>>=λsrc=>fc (λfr=>fe [("live",getF uq "live")]) (λuq i src=>wo c uq i src) src)>>=λa=>((aA [])>>=λvs=>alloc (.list vs))>>=λb=>cmpC c vp a b)>>=cV c)>>=λt=>if t=ao then (aA ao) else aA bc)>>=λt=>if t=ao then ((bw "name")>>=λv=>i4 c acc v) else aA ()
def rh(uq:eB)(acc:Nat)(src:Src):M Unit:=
 dh src.fz (fj (λv=>ng c uq acc v) src.items)
def jE(v:V):M Fl:=
 setM "step" v>>=λ_=>(seqM (((aA (bp ""))>>=λov=>ew c ov "join" >>=λm=>(((bw "live")>>=λit=>gI c it>>=λsrc=>fc (λfr=>fe [("live",getF fr "live"),("users",getF fr "users")]) (λuq i src=>rh c uq i src) src)>>=eK)>>=λas=>eJ c ov m as>>=ec)>>=λv=>(setM "live" v>>=mx)>>=jH)
  (aA bo))
def nh(uq:eB)(acc:Nat)(v:V):M Unit:=
 setM "sign" v>>=λ_=>((((bw "sign")>>=λa=>(lift (getF uq "live"))>>=λb=>cmpC c kc a b)>>=cV c)>>=λt=>if t=ao then (aA ao) else aA bc)>>=λt=>if t=ao then ((bw "sign")>>=λv=>i4 c acc v) else aA ()
def uQ(uq:eB)(acc:Nat)(src:Src):M Unit:=
 dh src.fz (fj (λv=>nh c uq acc v) src.items)
def iU(v:V):M Fl:=
 setM "i" v>>=λ_=>(seqM (((bw "named")>>=λov=>ew c ov "extend" >>=λm=>(((((aA (bp "abcd"))>>=λov=>(bw "i")>>=λiv=>d0 c ov iv)>>=λa=>((bw "texts")>>=λov=>(bw "i")>>=λiv=>d0 c ov iv)>>=λb=>binC c fH a b)>>=λit=>gI c it>>=λsrc=>fc (λfr=>fe [("live",getF fr "live")]) (λuq i src=>uQ c uq i src) src)>>=eK)>>=λas=>eJ c ov m as>>=ec)>>=jH)
  (aA bo))
def j0:M Bool:=
 ((((bw "way")>>=λov=>((aA (bD (1)))>>=GZ)>>=λiv=>d0 c ov iv)>>=λa=>((bw "way")>>=λov=>(aA fU)>>=λlv=>((aA (bD (1)))>>=GZ)>>=λuv=>(aA fU)>>=λsv=>lJ c ov lv uv sv)>>=λb=>cmpC c CmpOp.NotIn a b)>>=cV c)
def lP(uq:eB)(acc:Nat)(v:V):M Unit:=
 setM "user" v>>=λ_=>((((bw "user")>>=λa=>(lift (getF uq "live"))>>=λb=>cmpC c kc a b)>>=cV c)>>=λt=>if t=ao then (aA ao) else aA bc)>>=λt=>if t=ao then ((bw "user")>>=λv=>i4 c acc v) else aA ()
def uR(uq:eB)(acc:Nat)(src:Src):M Unit:=
 dh src.fz (fj (λv=>lP c uq acc v) src.items)
def lQ:M Fl:=
 (seqM (((bw "way")>>=λov=>ew c ov "append" >>=λm=>(((((bw "users")>>=λov=>((bw "way")>>=λov=>((aA (bD (1)))>>=GZ)>>=λiv=>d0 c ov iv)>>=λiv=>d0 c ov iv)>>=λit=>gI c it>>=λsrc=>fc (λfr=>fe [("live",getF fr "live")]) (λuq i src=>uR c uq i src) src)>>=λov=>(aA (bD (0)))>>=λiv=>d0 c ov iv)>>=eK)>>=λas=>eJ c ov m as>>=ec)>>=jH)
  (aA bo))
def pB:M Fl:=
 (seqM (((bw "way")>>=λov=>((bw "way")>>=λov=>ew c ov "index" >>=λm=>(((bw "way")>>=λov=>((aA (bD (1)))>>=GZ)>>=λiv=>d0 c ov iv)>>=eK)>>=λas=>eJ c ov m as>>=ec)>>=λlv=>(aA fU)>>=λuv=>(aA fU)>>=λsv=>lJ c ov lv uv sv)>>=pg)
  (aA bo))
def uS:M Fl:=
 (seqM (g9 (j0 c) (lQ c) (aA bo) 200)
  (pB c))
def uT:M Fl:=
 (seqM (((((bw "named")>>=λov=>(aA (bD (0)))>>=λiv=>d0 c ov iv)>>=eK)>>=λvs=>alloc (.list vs))>>=λv=>(setM "way" v>>=mx)>>=jH)
  (uS c))
def uU:M Fl:=
 (seqM ((((aA (bD (4)))>>=eK)>>=λas=>dN c (qc "range") as>>=ec)>>=λv=>gI c v>>=λsrc=>dh src.fz (fQ (λv=>iU c v) src.items))
  (uT c))
def uV:M Fl:=
 (seqM (((aA [])>>=λvs=>alloc (.list vs))>>=λv=>(setM "named" v>>=mx)>>=jH)
  (uU c))
def pC:M Fl:=
 (seqM ((((bw "live")>>=λa=>(aA (bp ""))>>=λb=>cmpC c kT a b)>>=cV c)>>=λt=>if t=ao then (seqM ((aA fU)>>=pg)
  (aA bo)) else (aA bo))
  (uV c))
def pD:M Fl:=
 (seqM ((((aA (bD (4)))>>=eK)>>=λas=>dN c (qc "range") as>>=ec)>>=λv=>gI c v>>=λsrc=>dh src.fz (fQ (λv=>jE c v) src.items))
  (pC c))
def pE:M Fl:=
 (seqM ((aA (bp "abcd"))>>=λv=>(setM "live" v>>=mx)>>=jH)
  (pD c))
def pF:M Fl:=
 (seqM ((aA (bp "abcd"))>>=λv=>gI c v>>=λsrc=>dh src.fz (fQ (λv=>jD c v) src.items))
  (pE c))
def uW:M Fl:=
 (seqM ((alloc (.dict []))>>=λv=>(setM "users" v>>=mx)>>=jH)
  (pF c))
theorem DL(v0:V)(os:List O)(z:List Nat):cN P aj (n+1) (.top 244) [v0] os z=nB (uW (cy P aj n) z ⟨[("texts",v0)],os⟩):=by kernel_rfl
def te(uq:eB)(acc:Nat)(v:V):M Unit:=
 setM "name" v>>=λ_=>(aA ao)>>=λt=>if t=ao then ((((lift (getF uq "texts"))>>=λv=>((bw "name")>>=eK)>>=λvs=>aA (v::vs))>>=λas=>dN c (qS 239) as>>=ec)>>=λv=>i4 c acc v) else aA ()
def xS(uq:eB)(acc:Nat)(src:Src):M Unit:=
 dh src.fz (fj (λv=>te c uq acc v) src.items)
def oA(uq:eB)(acc:Nat)(v:V):M Unit:=
 setM "i" v>>=λ_=>((((((lift (getF uq "opened"))>>=λov=>(bw "i")>>=λiv=>d0 c ov iv)>>=λov=>(aA (bD (0)))>>=λiv=>d0 c ov iv)>>=λa=>(lift (getF uq "times"))>>=λb=>cmpC c kT a b)>>=cV c)>>=λt=>if t=ao then (aA ao) else aA bc)>>=λt=>if t=ao then (((aA (bp "abcd"))>>=λov=>(bw "i")>>=λiv=>d0 c ov iv)>>=λv=>i4 c acc v) else aA ()
def tf(uq:eB)(acc:Nat)(src:Src):M Unit:=
 dh src.fz (fj (λv=>oA c uq acc v) src.items)
def ko(v:V):M Fl:=
 setM "name" v>>=λ_=>(seqM ((((bw "opened")>>=λov=>((aA (bp "abcd"))>>=λov=>ew c ov "index" >>=λm=>((bw "name")>>=eK)>>=λas=>eJ c ov m as>>=ec)>>=λiv=>d0 c ov iv)>>=λov=>(aA (bD (1)))>>=λiv=>d0 c ov iv)>>=λv=>(((bw "values")>>=λov=>(bw "name")>>=λiv=>nA c ov iv v)>>=mx)>>=jH)
  (aA bo))
def jb(v:V):M Fl:=
 setM "times" v>>=λ_=>(seqM (((((aA (bD (4)))>>=eK)>>=λas=>dN c (qc "range") as>>=ec)>>=λit=>gI c it>>=λsrc=>fc (λfr=>fe [("opened",getF fr "opened"),("times",getF fr "times")]) (λuq i src=>tf c uq i src) src)>>=λv=>(setM "group" v>>=mx)>>=jH)
  (seqM ((((bw "group")>>=λa=>((aA [])>>=λvs=>alloc (.list vs))>>=λb=>cmpC c vp a b)>>=cV c)>>=λt=>if t=ao then (seqM (((bw "groups")>>=λov=>ew c ov "append" >>=λm=>((bw "group")>>=eK)>>=λas=>eJ c ov m as>>=ec)>>=jH)
  (aA bo)) else (aA bo))
  (seqM ((bw "group")>>=λv=>gI c v>>=λsrc=>dh src.fz (fQ (λv=>ko c v) src.items))
  (aA bo))))
def rj:M Fl:=
 (seqM ((((bw "ring")>>=λv=>(((((bw "ring")>>=λa=>(aA fU)>>=λb=>cmpC c sE a b)>>=cV c)>>=λt=>if t=ao then (aA fU) else (((aA (bp "ring"))>>=λv=>((bw "ring")>>=eK)>>=λvs=>aA (v::vs))>>=λvs=>alloc (.tuple vs)))>>=λv=>((bw "groups")>>=λv=>((bw "values")>>=eK)>>=λvs=>aA (v::vs))>>=λvs=>aA (v::vs))>>=λvs=>aA (v::vs))>>=λvs=>alloc (.tuple vs))>>=pg)
  (aA bo))
def rn:M Fl:=
 (seqM ((((aA (bD (4)))>>=eK)>>=λas=>dN c (qc "range") as>>=ec)>>=λv=>gI c v>>=λsrc=>dh src.fz (fQ (λv=>jb c v) src.items))
  (rj c))
def ro:M Fl:=
 (seqM ((alloc (.dict []))>>=λv=>(setM "values" v>>=mx)>>=jH)
  (rn c))
def rr:M Fl:=
 (seqM (((aA [])>>=λvs=>alloc (.list vs))>>=λv=>(setM "groups" v>>=mx)>>=jH)
  (ro c))
def rt:M Fl:=
 (seqM (((aA (bp "abcd"))>>=λit=>gI c it>>=λsrc=>fc (λfr=>fe [("texts",getF fr "texts")]) (λuq i src=>xS c uq i src) src)>>=λv=>(setM "opened" v>>=mx)>>=jH)
  (rr c))
def wR:M Fl:=
 (seqM ((((bw "texts")>>=eK)>>=λas=>dN c (qS 244) as>>=ec)>>=λv=>(setM "ring" v>>=mx)>>=jH)
  (rt c))
theorem Fu(v0:V)(os:List O)(z:List Nat):cN P aj (n+1) (.top 249) [v0] os z=nB (wR (cy P aj n) z ⟨[("texts",v0)],os⟩):=by kernel_rfl
def DM(uq:eB)(acc:Nat)(v:V):M Unit:=
 setM "draw" v>>=λ_=>(aA ao)>>=λt=>if t=ao then ((((bw "draw")>>=eK)>>=λas=>dN c (qS 217) as>>=ec)>>=λv=>i4 c acc v) else aA ()
def Ja(uq:eB)(acc:Nat)(src:Src):M Unit:=
 dh src.fz (fj (λv=>DM c uq acc v) src.items)
def DN(uq:eB)(acc:Nat)(v:V):M Unit:=
 DJ c ["sign","word"] v>>=λ_=>(aA ao)>>=λt=>if t=ao then ((bw "word")>>=λv=>i4 c acc v) else aA ()
def DO(uq:eB)(acc:Nat)(src:Src):M Unit:=
 dh src.fz (fj (λv=>DN c uq acc v) src.items)
def DP(uq:eB)(acc:Nat)(v:V):M Unit:=
 setM "i" v>>=λ_=>(aA ao)>>=λt=>if t=ao then (((aA (bp ""))>>=λov=>ew c ov "join" >>=λm=>((((lift (getF uq "written"))>>=λov=>(bw "i")>>=λlv=>((bw "i")>>=λa=>(aA (bD (3)))>>=λb=>binC c fH a b)>>=λuv=>(aA fU)>>=λsv=>lJ c ov lv uv sv)>>=λit=>gI c it>>=λsrc=>fc (λfr=>fe []) (λuq i src=>DO c uq i src) src)>>=eK)>>=λas=>eJ c ov m as>>=ec)>>=λv=>i4 c acc v) else aA ()
def DQ(uq:eB)(acc:Nat)(src:Src):M Unit:=
 dh src.fz (fj (λv=>DP c uq acc v) src.items)
def DR(uq:eB)(acc:Nat)(v:V):M Unit:=
 DJ c ["sign","word"] v>>=λ_=>(aA ao)>>=λt=>if t=ao then ((bw "sign")>>=λv=>i4 c acc v) else aA ()
def DT(uq:eB)(acc:Nat)(src:Src):M Unit:=
 dh src.fz (fj (λv=>DR c uq acc v) src.items)
def DU(uq:eB)(acc:Nat)(v:V):M Unit:=
 setM "i" v>>=λ_=>(aA ao)>>=λt=>if t=ao then (((((aA (bp ""))>>=λov=>ew c ov "join" >>=λm=>((((lift (getF uq "written"))>>=λov=>(bw "i")>>=λlv=>((bw "i")>>=λa=>(aA (bD (3)))>>=λb=>binC c fH a b)>>=λuv=>(aA fU)>>=λsv=>lJ c ov lv uv sv)>>=λit=>gI c it>>=λsrc=>fc (λfr=>fe []) (λuq i src=>DT c uq i src) src)>>=eK)>>=λas=>eJ c ov m as>>=ec)>>=eK)>>=λas=>dN c (qS 222) as>>=ec)>>=λv=>i4 c acc v) else aA ()
def A9(uq:eB)(acc:Nat)(src:Src):M Unit:=
 dh src.fz (fj (λv=>DU c uq acc v) src.items)
def Fv:M Fl:=
 (seqM (((((bw "told")>>=eK)>>=λas=>dN c (qS 234) as>>=ec)>>=λa=>(((bw "texts")>>=eK)>>=λas=>dN c (qS 249) as>>=ec)>>=λb=>cmpC c kT a b)>>=pg)
  (aA bo))
def Fw:M Fl:=
 (seqM ((((bw "told")>>=λa=>(bw "texts")>>=λb=>cmpC c vp a b)>>=cV c)>>=λt=>if t=ao then (seqM ((aA (BQ bc))>>=pg)
  (aA bo)) else (aA bo))
  (Fv c))
def Fx:M Fl:=
 (seqM (((((aA (bD (0)))>>=λv=>((aA (bD (12)))>>=λv=>((aA (bD (3)))>>=eK)>>=λvs=>aA (v::vs))>>=λvs=>aA (v::vs))>>=λas=>dN c (qc "range") as>>=ec)>>=λit=>gI c it>>=λsrc=>fc (λfr=>fe [("written",getF fr "written")]) (λuq i src=>A9 c uq i src) src)>>=λv=>(setM "told" v>>=mx)>>=jH)
  (Fw c))
def Fy:M Fl:=
 (seqM (((((aA (bD (0)))>>=λv=>((aA (bD (12)))>>=λv=>((aA (bD (3)))>>=eK)>>=λvs=>aA (v::vs))>>=λvs=>aA (v::vs))>>=λas=>dN c (qc "range") as>>=ec)>>=λit=>gI c it>>=λsrc=>fc (λfr=>fe [("written",getF fr "written")]) (λuq i src=>DQ c uq i src) src)>>=λv=>(setM "texts" v>>=mx)>>=jH)
  (Fx c))
def Fz:M Fl:=
 (seqM (((bw "draws")>>=λit=>gI c it>>=λsrc=>fc (λfr=>fe []) (λuq i src=>Ja c uq i src) src)>>=λv=>(setM "written" v>>=mx)>>=jH)
  (Fy c))
def R1:M Fl:=
 (seqM ((((bw "script")>>=eK)>>=λas=>dN c (qS 210) as>>=ec)>>=λv=>(setM "draws" v>>=mx)>>=jH)
  (Fz c))
theorem T8(v0:V)(os:List O)(z:List Nat):cN P aj (n+1) (.top 254) [v0] os z=nB (R1 (cy P aj n) z ⟨[("script",v0)],os⟩):=by kernel_rfl
end
variable{cQ:zG}
theorem FD(m:M α)(f:α->M β)(z:List Nat)(s:eP):(m>>=f) z s=match m z s with
 |some (a,s')=>f a z s'
 |none=>ae:=rfl
theorem mpure(a:α)(z:List Nat)(s:eP):(aA a:M α) z s=af (a,s):=rfl
theorem Cg(x:Str)(z:List Nat)(fr:eB)(os:List O):bw x z ⟨fr,os⟩=(getF fr x).map λv=>(v,⟨fr,os⟩):=rfl
theorem FE(x:Str)(v:V)(z:List Nat)(fr:eB)(os:List O):setM x v z ⟨fr,os⟩=af ((),⟨putF fr x v,os⟩):=rfl
theorem zI(o:Option α)(z:List Nat)(s:eP):lift o z s=o.map λa=>(a,s):=rfl
theorem ff{o:Option α}{a:α}(h:o=af a)(z:List Nat)(s:eP):lift o z s=af (a,s):=by subst h;rfl
theorem Ba[Decidable p]{a b:M α}(h:p)(z:List Nat)(s:eP):(if p then a else b) z s=a z s:=by rw [if_pos h]
theorem dW{o:O}(h:sizeOk o=ao)(z:List Nat)(fr:eB)(os:List O):alloc o z ⟨fr,os⟩=af (.ref os.length,⟨fr,os++ [o]⟩):=by
 dsimp only [alloc];exact (if_pos h)
theorem eL{o:O}(h:os[i]? =af o)(z:List Nat)(fr:eB):el c (.ref i) z ⟨fr,os⟩=af (o,⟨fr,os⟩):=by
 show (os[i]?).map _=_;refine h▸ ?_;rfl
theorem Qk{o:O}(h:c.aj.lookup a=af o)(z:List Nat)(s:eP):el c (.top a) z s=af (o,s):=by
 show (c.aj.lookup a).map _=_;refine h▸ ?_;rfl
theorem lR{o o':O}(h:os[i]? =af o')(hs:sizeOk o=ao)(hz:i∉z)(fr:eB):gU i o z ⟨fr,os⟩=af ((),⟨fr,os.set i o⟩):=by
 have hi:i<os.length:=(cP.mp h).1;unfold gU;exact (if_pos ⟨hi,hs,hz⟩)
theorem dz{a b:String}:(ah a=ah b)↔a=b:=by
 constructor
 ·intro h;rw [tN,tN] at h;have h1:(a.toList.map xg).toArray=(b.toList.map xg).toArray:=congrArg Str.cps h;have h2:a.toList.map xg=b.toList.map xg:=by simpa using h1
  have h3:a.toList=b.toList:=List.map_inj_right (λx y hxy=>Char.toNat_inj.mp hxy) |>.mp h2
  exact String.toList_inj.mp h3
 ·rintro rfl;rfl
section
variable(P:eR)(aj:List (bj × O))(cQ:zG)
theorem k40:tT (Kw P) 40=ao:=by kernel_rfl
theorem T9:sS (Kw P) 40 "node" =af (41,0)/\qM (Kw P) 40 "node" =af (af (.ref 41)):=⟨by kernel_rfl,by kernel_rfl⟩
theorem FF:sS (Kw P) 40 "npredecessors" =af (42,1)/\qM (Kw P) 40 "npredecessors" =af (af (.ref 42)):=⟨by kernel_rfl,by kernel_rfl⟩
theorem M0:sS (Kw P) 40 "successors" =af (43,2)/\qM (Kw P) 40 "successors" =af (af (.ref 43)):=⟨by kernel_rfl,by kernel_rfl⟩
theorem Ql:tT (Kw P) 137=ao/\(clsIn (Kw P) 137).any (·.hasDict)=ao:=⟨by kernel_rfl,by kernel_rfl⟩
noncomputable def xT:List Str:=[ah "_node2info",ah "_ready_nodes",ah "_npassedout",ah "_nfinished"]
theorem R2:∀a∈xT,j8 (Kw P) (.ref 137) a=af ae/\qM (Kw P) 137 a=af ae:=by
 intro a ha;simp only [xT,aY,c8,or_false] at ha;rcases ha with rfl|rfl|rfl|rfl<;>exact ⟨by kernel_rfl,by kernel_rfl⟩
def tW(P:eR)(name:Str)(f:bj):Bool:=j8 (Kw P) (.ref 137) name==af (af (.ref f))&&(tT (Kw P) 137&&(BL (Kw P) (.ref f)==af (.type "function")&&(hasDictIn (Kw P) 137&&(r9 (Kw P) (.ref f) "__get__" ==af (af (.builtin "function.__get__"))&&(yq (Kw P) (.ref f)==af bc&&(!copiedNames.contains name&&fnIn (Kw P) f))))))&&j9 (Kw P) (.ref f)
theorem DV:tW P "_get_nodeinfo" 80=ao:=by kernel_rfl
theorem M1:tW P "add" 87=ao:=by kernel_rfl
theorem Bb:tW P "prepare" 92=ao:=by kernel_rfl
theorem FI:tW P "get_ready" 99=ao:=by kernel_rfl
theorem CT:tW P "is_active" 106=ao:=by kernel_rfl
theorem Jb:tW P "done" 120=ao:=by kernel_rfl
theorem xU:tW P "_find_cycle" 127=ao:=by kernel_rfl
end
section
variable{P:eR}{aj:List (bj × O)}{cQ:zG}
theorem Af{a:Str}(h1:os[i]? =af (.inst 137 d))(h2:os[d]? =af (.ns es))(ha:a∈xT)(hv:lookE es a=af v)(hb:EM v=ao):eD (cx P aj cQ hd) (.ref i) a z ⟨fr,os⟩=af (v,⟨fr,os⟩):=by
 refine (aZ (eL h1 z fr)).trans ((aZ (eL h2 z fr)).trans ?_);have hc:(tT (Kw P) 137&&(clsIn (Kw P) 137).any (·.hasDict)&&j8 (Kw P) (.ref 137) a==af ae)=ao:=by
  rw [(Ql P).1,(Ql P).2,(R2 P a ha).1];rfl
 exact (aZ (ff ((if_pos hc).trans hv) z _)).trans (Ba hb z _)
theorem tg{a:Str}(h1:os[i]? =af (.inst 137 d))(h2:os[d]? =af (.ns es))(ha:a∈xT)(hz:d∉z)(hs:(jY es a v).length<=1000):d8 (cx P aj cQ hd) (.ref i) a v z ⟨fr,os⟩=af ((),⟨fr,os.set d (.ns (jY es a v))⟩):=by
 refine (aZ (eL h1 z fr)).trans ((aZ (eL h2 z fr)).trans ?_);have hc:(tT (Kw P) 137&&(clsIn (Kw P) 137).any (·.hasDict)&&qM (Kw P) 137 a==af ae)=ao:=by
  rw [(Ql P).1,(Ql P).2,(R2 P a ha).2];rfl
 exact (Ba hc z _).trans (lR (o:=.ns (jY es a v)) h2 (decide_eq_true hs) hz fr)
theorem vF{p:Nat}{vs:List (Option V)}{a:Str}(h1:os[i]? =af (.slots 40 d vs))(h2:os[d]? =af (.ns es))(ha:sS (Kw P) 40 a=af (p,k))(hv:vs[k]? =af (af v))(hb:EM v=ao):eD (cx P aj cQ hd) (.ref i) a z ⟨fr,os⟩=af (v,⟨fr,os⟩):=by
 refine (aZ (eL h1 z fr)).trans ((aZ (eL h2 z fr)).trans ?_);exact (aZ (ff (a:=(p,k)) ((if_pos (k40 P)).trans ha) z _)).trans ((aZ (ff (a:=v) (congrArg Option.join hv) z _)).trans (Ba hb z _))
theorem wU{p:Nat}{vs:List (Option V)}{a:Str}(h1:os[i]? =af (.slots 40 d vs))(h2:os[d]? =af (.ns es))(ha:sS (Kw P) 40 a=af (p,k))(ht:qM (Kw P) 40 a=af (af (.ref p)))(hk:k<vs.length)(hk':k<1000)(hz:i∉z):
  d8 (cx P aj cQ hd) (.ref i) a v z ⟨fr,os⟩=af ((),⟨fr,os.set i (.slots 40 d (vs.set k (af v)))⟩):=by
 refine (aZ (eL h1 z fr)).trans ((aZ (eL h2 z fr)).trans ?_);exact (aZ (ff (a:=(p,k)) ((if_pos (k40 P)).trans ha) z _)).trans ((Ba ⟨hk,hk',ht⟩ z _).trans (lR h1 rfl hz fr))
theorem Qm{f:bj}(h1:os[i]? =af (.inst 137 d))(h2:os[d]? =af (.ns es))(hk:tW P name f=ao)(hn:lookE es name=ae):ew (cx P aj cQ hd) (.ref i) name z ⟨fr,os⟩=af (.fn f,⟨fr,os⟩):=by
 refine (aZ (eL h1 z fr)).trans ((aZ (eL h2 z fr)).trans ?_);unfold tW at hk;rw [aS,aS,beq_iff_eq] at hk;obtain ⟨⟨hf,hc⟩,_⟩:=hk;have hc':wI (Kw P) 137 es name f=ao:=by
  rw [aS,aS] at hc;unfold wI;rw [hc.1,hc.2.1,hn,hc.2.2];rfl
 have hm:GX (Kw P) 137 es name=af f:=by
  unfold GX;rw [hf];exact if_pos hc'
 exact aZ (ff hm z _)
theorem gR{f:bj}(hk:j9 (Kw P) (.ref f)=ao):dN (cx P aj cQ ao) (.top f) as z ⟨fr,os⟩=(cQ (.top f) as os z).map λ(r,os')=>(r,⟨fr,os'⟩):=by
 exact Ba (show (ao&&j9 (Kw P) (.ref f))=ao by rw [hk];rfl) z _
theorem jc{f:bj}(hk:tW P name f=ao):j9 (Kw P) (.ref f)=ao:=by
 unfold tW at hk;rw [aS] at hk;exact hk.2
end
section
variable{s s':eP}
theorem bq{m:M α}{f:α->M β}{a:α}{r:Option (β × eP)}(h:m z s=af (a,s'))(k:f a z s'=r):(m>>=f) z s=r:=by
 rw [FD,h];exact k
theorem br{a:α}:(aA a:M α) z s=af (a,s):=rfl
theorem bE(h:getF fr x=af v):bw x z ⟨fr,os⟩=af (v,⟨fr,os⟩):=by
 rw [Cg,h];rfl
theorem bO(h:putF fr x v=ej):setM x v z ⟨fr,os⟩=af ((),⟨ej,os⟩):=by
 subst h;rfl
theorem bV{c:Prop}[Decidable c]{a b:M α}{r:Option (α × eP)}(hc:c)(h:a z s=r):(if c then a else b) z s=r:=by
 rw [if_pos hc];exact h
theorem ite_no{c:Prop}[Decidable c]{a b:M α}{r:Option (α × eP)}(hc:¬c)(h:b z s=r):(if c then a else b) z s=r:=by
 rw [if_neg hc];exact h
theorem HK{a b:String}(h:a≠b):ah a≠ah b:=λe=>h (dz.mp e)
theorem ba{u:V}{r:eB}:getF ((x,u)::r) x=af u:=if_pos rfl
theorem bg{x y:String}{u:V}{w:Option V}{r:eB}(h:y≠x)(k:getF r (ah x)=w):getF ((ah y,u)::r) (ah x)=w:=(if_neg (HK h)).trans k
theorem oB{u:V}{r:eB}:putF ((x,u)::r) x v=(x,v)::r:=if_pos rfl
theorem eZ:putF [] x v= [(x,v)]:=rfl
theorem fL{x y:String}{u:V}{r r':eB}(h:y≠x)(k:putF r (ah x) v=r'):putF ((ah y,u)::r) (ah x) v=(ah y,u)::r':=by
 subst k;exact if_neg (HK h)
def FJ(b:M Fl):Fl->M Fl
 | .next=>b
 |f=>aA f
theorem bt{a b:M Fl}{x:Fl}{r:Option (Fl × eP)}(h:a z s=af (x,s'))(k:FJ b x z s'=r):seqM a b z s=r:=by
 unfold seqM;rw [FD,h];subst k;cases x<;>rfl
theorem aO{b:M Fl}{r:Option (Fl × eP)}(k:b z s=r):FJ b .next z s=r:=k
theorem bA{b:M Fl}:FJ b (.ret v) z s=af (.ret v,s):=rfl
theorem M3{b:M Fl}:FJ b (.exc i) z s=af (.exc i,s):=rfl
theorem Bc{b:M Fl}:FJ b .brk z s=af (.brk,s):=rfl
theorem KP{b:M Fl}:FJ b .cont z s=af (.cont,s):=rfl
theorem gA{X:Option (CR × eP)}{o:Option (CR × List O)}{x:CR}(e:X=o.map λp=>(p.1,⟨fr,p.2⟩))(h:o=af (x,os')):X=af (x,⟨fr,os'⟩):=by
 subst h;exact e
theorem b7{X:Option (CR × eP)}{o:Option (V × eP)}{x:V}(e:X=o.map λp=>(.ret p.1,p.2))(h:o=af (x,s')):X=af (.ret x,s'):=by
 subst h;exact e
theorem uX{b:M Fl}{w:V}(h:v=w)(hs:s=s'):FJ b (.ret v) z s=af (.ret w,s'):=by
 subst h;subst hs;rfl
theorem CU{b:M Fl}{w:V}(h:v=w)(ho:os=os'):FJ b (.ret v) z ⟨fr,os⟩=af (.ret w,⟨fr,os'⟩):=by
 subst h;subst ho;rfl
theorem nt{b:Bool}(h:b=bc):¬b=ao:=by rw [h];exact bh
theorem iL{o:Option α}{a:α}(h:o=af a):lift o z s=af (a,s):=by
 subst h;rfl
theorem kG{a b:V}{q:Bool}(h:EJ os a b=af q):cmpC c .Eq a b z ⟨fr,os⟩=af (.bool q,⟨fr,os⟩):=by
 show (EL os a b).map _=_;unfold EL;rw [h];rfl
theorem Qn{a b:V}{q:Bool}(h0:EJ os a b=ae)(h:z4 os a b=af q):cmpC c .Eq a b z ⟨fr,os⟩=af (.bool q,⟨fr,os⟩):=by
 show (EL os a b).map _=_;unfold EL;rw [h0,h];rfl
theorem yX{a b:V}{q:Bool}(h:EJ os a b=af q):cmpC c .NotEq a b z ⟨fr,os⟩=af (.bool (!q),⟨fr,os⟩):=by
 show (EJ os a b).map _=_;rw [h];rfl
theorem th{a b:V}{q:Bool}(h:Pg c a b z s=af (q,s')):cmpC c .In a b z s=af (.bool q,s'):=by
 show (Pg c a b>>=λr=>aA (BQ r)) z s=_;rw [FD,h];rfl
theorem pG{a b:V}{q:Bool}(h:isV a b=af q):cmpC c .Is a b z s=af (.bool q,s):=by
 show ((isV a b).map BQ).map _=_;rw [h];rfl
theorem oR{a b:V}{q:Bool}(h:isV a b=af q):cmpC c .IsNot a b z s=af (.bool (!q),s):=by
 show ((isV a b).map _).map _=_;rw [h];rfl
theorem DW{a b:Int}:cmpC c .Lt (.int a) (.int b) z s=af (.bool (a<b),s):=rfl
theorem DX{a b:Int}:EP .Add (.int a) (.int b) z s=af (.int (a+b),s):=rfl
theorem Jc{a b:Int}:EP .Sub (.int a) (.int b) z s=af (.int (a-b),s):=rfl
theorem aI{b:Bool}:cV c (.bool b) z s=af (b,s):=rfl
theorem Bd:cV c .none z s=af (bc,s):=rfl
theorem gu{X:Option (Fl × eP)}(h:X=af (.ret v,⟨fr,os⟩)):nB X=af (.ret v,os):=by
 subst h;rfl
theorem KQ{src:Src}{u:eB}(ha:alloc (.list []) z ⟨fr,os⟩=af (.ref i,⟨fr,os++ [.list []]⟩))(hu:ups fr=u)(h:body u i src z ⟨[],os++ [.list []]⟩=af ((),⟨ej,os'⟩)):fc ups body src z ⟨fr,os⟩=af (.ref i,⟨fr,os'⟩):=by
 subst hu;refine (aZ ha).trans ?_;show (body (ups fr) i src z ⟨[],os++ [.list []]⟩).map _=_;rw [h];rfl
theorem xV{src:Src}(hl:os.length=i)(h:body (ups fr) i src z ⟨[],os++ [.list []]⟩=af ((),⟨ej,os'⟩)):fc ups body src z ⟨fr,os⟩=af (.ref i,⟨fr,os'⟩):=KQ (hl▸dW rfl z fr os) rfl h
theorem KS{C:bj}(h:sizeOk (.tuple as)=ao):G5 C as z ⟨fr,os⟩=af (.exc (os.length+1),⟨fr,os++ [.tuple as]++ [.exc C os.length]⟩):=by
 refine (aZ (dW h z fr os)).trans ((aZ (dW (o:=.exc C os.length) rfl z fr _)).trans ?_);rw [aq];rfl
theorem HL{set:V->M Unit}{en:M V}{C:bj}{t:Nat}(o:os[i]? =af (.exc C t))(hC:C∈c.ib)(h1:set (.ref i) z ⟨fr,os⟩=af ((),s))(h2:en z s=af (v,s')):z7 c set (aA (.top C)) en (.exc i) z ⟨fr,os⟩=af (.ret v,⟨[],s'.os⟩):=
 (aZ (eL o z fr)).trans ((Ba (a:=set (.ref i)>>=λ_=>en>>=λv=>λ_ s=>af (Fl.ret v,{s with fr:=[]})) (b:=fail) (p:=C=C/\C∈c.ib) ⟨rfl,hC⟩ z _).trans ((aZ h1).trans (aZ h2)))
theorem Be{i:Int}:GZ (.int i) z s=af (.int (-i),s):=rfl
theorem Qo{set:V->M Unit}{rest hb:M Fl}{q it l:Nat}{r:Option (Fl × eP)}(o1:os[q]? =af (.next it))(o2:os[it]? =af (.kO l k))(o3:os[l]? =af (.list xs))(hv:xs[k]? =af v)
  (h:(gU it (.kO l (k+1))>>=λ_=>set v>>=λ_=>rest>>=AA:M Fl) z ⟨fr,os⟩=r):uF c set rest hb (.ref q) z ⟨fr,os⟩=r:=by
 refine (aZ (eL o1 z fr)).trans ((aZ (eL o2 z fr)).trans ((aZ (eL o3 z fr)).trans ?_));show wa xs[k]? _ _ z _=r;rw [hv];exact h
theorem Qp{set:V->M Unit}{rest hb:M Fl}{q it l:Nat}{r:Option (Fl × eP)}(o1:os[q]? =af (.next it))(o2:os[it]? =af (.kO l k))(o3:os[l]? =af (.list xs))(hv:xs[k]? =ae)
  (h:(gU it .dead>>=λ_=>hb>>=AA:M Fl) z ⟨fr,os⟩=r):uF c set rest hb (.ref q) z ⟨fr,os⟩=r:=by
 refine (aZ (eL o1 z fr)).trans ((aZ (eL o2 z fr)).trans ((aZ (eL o3 z fr)).trans ?_));show wa xs[k]? _ _ z _=r;rw [hv];exact h
theorem aE:getF (putF fr x v) x=af v:=(b9 fr x x v).trans (if_pos rfl)
theorem av{x y:String}{w:Option V}(h:y≠x)(k:getF fr (ah y)=w):getF (putF fr (ah x) v) (ah y)=w:=(b9 fr _ _ v).trans ((if_neg (HK h)).trans k)
end
theorem wV{os l:List O}(k:Nat):(os++l)[os.length+k]? =l[k]? :=by
 refine (bT (aF _ _)).trans ?_;congr 1;exact dO _ _
theorem cK{os l:List O}:(os++l)[os.length]? =l[0]? :=wV 0
theorem Jd{os l:List O}(k:Nat)(x:O):(os++l).set (os.length+k) x=os++l.set k x:=by
 refine (ui _ _ (aF _ _)).trans ?_;congr 2;exact dO _ _
theorem M4{os l:List O}(x:O):(os++l).set os.length x=os++l.set 0 x:=Jd 0 x
section
variable(P:eR)(aj:List (bj × O))(n:Nat)(os:List O)(z:List Nat)
theorem Qq:cN P aj (n+1) (.top 137) [] os z=(nB (q6 (cy P aj n) z ⟨[("self",.ref (os.length+1)),("graph",.none)],os++ [.ns [],.inst 137 os.length]⟩)).bind (λr=>if z9 r.1 then af (.ret (.ref (os.length+1)),r.2) else ae):=by kernel_rfl
theorem Ua(v:V):cN P aj (n+1) (.top 40) [v] os z=(nB (ic (cy P aj n) z ⟨[("self",.ref (os.length+1)),("node",v)],os++ [.ns [],.slots 40 os.length (gW 5 ae)]⟩)).bind (λr=>if z9 r.1 then af (.ret (.ref (os.length+1)),r.2) else ae):=by kernel_rfl
end
section
variable{P:eR}{aj:List (bj × O)}{z:List Nat}{os:List O}
noncomputable def uY(hJ:Nat)(rd:V)(po fi:Int):List (Str × V):=[(ah "_node2info",.ref hJ),(ah "_ready_nodes",rd),(ah "_npassedout",.int po),(ah "_nfinished",.int fi)]
theorem M5(hz:∀j∈z,j<os.length):q6 (cx P aj cQ ao) z ⟨[("self",.ref (os.length+1)),("graph",.none)],os++ [.ns [],.inst 137 os.length]⟩=af (.next,⟨[("self",.ref (os.length+1)),("graph",.none)],os++ [.ns (uY (os.length+2) .none 0 0),.inst 137 os.length,.dict []]⟩):=by
 have nz:os.length∉z:=λh=>aW _ (hz _ h);have step:∀(fr:eB) (es:List (Str × V)) (l:List O) (a:Str) (v:V),a∈xT->(jY es a v).length<=1000->d8 (cx P aj cQ ao) (.ref (os.length+1)) a v z ⟨fr,os++ .ns es:: .inst 137 os.length::l⟩=af ((),⟨fr,os++ .ns (jY es a v):: .inst 137 os.length::l⟩):=λfr es l a v ha hs=>by
  rw [tg (d:=os.length) (es:=es) (wV 1) cK ha nz hs,M4];rfl
 have p1:∀v,jY [] "_node2info" v= [(ah "_node2info",v)]:=λv=>rfl;have s1:=λfr=>step fr [] [.dict []] "_node2info" (.ref (os.length+2)) (by exact fg) (by exact lS _);have s2:=λfr=>step fr [(ah "_node2info",.ref (os.length+2))] [.dict []] "_ready_nodes" .none (by exact iK rfl) (by exact iK rfl);have s3:=λfr=>step fr [(ah "_node2info",.ref (os.length+2)),(ah "_ready_nodes",.none)] [.dict []] "_npassedout" (.int 0) (by exact iK rfl) (by exact iK rfl);have s4:=λfr=>step fr [(ah "_node2info",.ref (os.length+2)),(ah "_ready_nodes",.none),(ah "_npassedout",.int 0)] [.dict []] "_nfinished" (.int 0) (by exact iK rfl) (by exact iK rfl);have q1:jY [] "_node2info" (.ref (os.length+2))= [(ah "_node2info",.ref (os.length+2))]:=by rfl
 have q2:jY [(ah "_node2info",.ref (os.length+2))] "_ready_nodes" .none= [(ah "_node2info",.ref (os.length+2)),(ah "_ready_nodes",.none)]:=by rfl
 have q3:jY [(ah "_node2info",.ref (os.length+2)),(ah "_ready_nodes",.none)] "_npassedout" (.int 0)= [(ah "_node2info",.ref (os.length+2)),(ah "_ready_nodes",.none),(ah "_npassedout",.int 0)]:=by rfl
 have q4:jY [(ah "_node2info",.ref (os.length+2)),(ah "_ready_nodes",.none),(ah "_npassedout",.int 0)] "_nfinished" (.int 0)=uY (os.length+2) .none 0 0:=by rfl
 rw [q1] at s1;rw [q2] at s2;rw [q3] at s3;rw [q4] at s4;have a1:∀fr,alloc (.dict []) z ⟨fr,os++ [.ns [],.inst 137 os.length]⟩=af (.ref (os.length+2),⟨fr,os++ .ns []:: .inst 137 os.length:: [.dict []]⟩):=λfr=>by
  have h:=dW (o:=.dict []) rfl z fr (os++ [.ns [],.inst 137 os.length]);rw [aQ,aq] at h;exact h
 (delta q6;with_reducible repeat' (first|apply a1|apply s1|apply s2|apply s3|apply s4|exact br|apply bt|apply bq|apply bE|apply aO|exact ba|apply bg (by decide)|(apply oR;focus exact rfl)|exact aI|(apply ite_no;focus decide)|with_unfolding_all rfl))
end
structure Nd where
 nm:Str
 info:Nat
 dd:Nat
 su:Nat
 np:Int
 ss:List Str
noncomputable def EB(x:Nd):O:=.slots 40 x.dd [af (.str x.nm),af (.int x.np),af (.ref x.su),ae,ae]
structure Sr where
 i:Nat
 d:Nat
 hJ:Nat
 df:List Nd
 rd:Option (Nat × List Str)
 po:Int
 fi:Int
noncomputable def rdV:Option (Nat × List Str)->V
 |none=>.none
 |some p=>.ref p.1
noncomputable def Ci:Option (Nat × List Str)->List Nat
 |none=>[]
 |some p=>[p.1]
noncomputable def nF(x:Nd):List Nat:=[x.info,x.dd,x.su]
noncomputable def idx(S:Sr):List Nat:=S.i::S.d::S.hJ::(Ci S.rd++S.df.flatMap nF)
structure gp(os:List O)(S:Sr):Prop where
 inst:os[S.i]? =af (.inst 137 S.d)
 ns:os[S.d]? =af (.ns (uY S.hJ (rdV S.rd) S.po S.fi))
 dict:os[S.hJ]? =af (.dict (S.df.map λx=>(x.nm,.ref x.info)))
 nd:∀x∈S.df,os[x.info]? =af (EB x)/\os[x.dd]? =af (.ns [])/\os[x.su]? =af (.list (x.ss.map .str))
 rd:∀r l,S.rd=af (r,l)->os[r]? =af (.list (l.map .str))
 nodup:(idx S).Nodup
 names:(S.df.map (·.nm)).Nodup
theorem aX{o:O}(h:os[i]? =af o):i<os.length:=(cP.mp h).1
theorem bI{l:List O}{o:O}(h:os[i]? =af o):(os++l)[i]? =af o:=by refine (aJ (aX h)).trans ?_;exact h
theorem bC{o x:O}(h:os[i]? =af o)(hn:j≠i):(os.set j x)[i]? =af o:=by refine (bH hn).trans ?_;exact h
theorem dA{o x:O}(h:os[i]? =af o):(os.set i x)[i]? =af x:=dT (aX h)
section
variable{S S':Sr}
theorem gp.lt(h:gp os S):∀j∈idx S,j<os.length:=λj hj=>by
 simp only [idx,aY,aG] at hj;rcases hj with rfl|rfl|rfl|hj|hj
 ·exact aX h.inst
 ·exact aX h.ns
 ·exact aX h.dict
 ·induction hr:S.rd using aw with
  |none=>rw [hr] at hj;obtain ⟨⟩:=hj
  |some p=>rw [hr] at hj;obtain rfl:=aL.mp hj;exact aX (h.rd p.1 p.2 hr)
 ·refine aR (cI.mp hj) λx hx hj=>?_;have:=h.nd x hx;simp only [nF,aY,c8,or_false] at hj;rcases hj with rfl|rfl|rfl
  ·exact aX this.1
  ·exact aX this.2.1
  ·exact aX this.2.2
theorem gp.of_same(h:gp os S)(hs:∀j∈idx S,os'[j]? =os[j]?):gp os' S:=by
 have m1:S.i∈idx S:=by exact fg
 have m2:S.d∈idx S:=by simp [idx]
 have m3:S.hJ∈idx S:=by simp [idx]
 have m4:∀x∈S.df,∀j∈nF x,j∈idx S:=λx hx j hj=>by
  simp only [idx,aY,aG];exact .inr (.inr (.inr (.inr (cI.mpr ⟨x,hx,hj⟩))))
 refine ⟨(hs _ m1).trans h.inst,(hs _ m2).trans h.ns,(hs _ m3).trans h.dict,λx hx=>?_,λr l hr=>(hs r (by simp [idx,hr,Ci])).trans (h.rd r l hr),h.nodup,h.names⟩;refine cT (h.nd x hx) λa b c=>?_;exact ⟨(hs _ (m4 x hx _ (by exact fg))).trans a,(hs _ (m4 x hx _ (by simp [nF]))).trans b,(hs _ (m4 x hx _ (by simp [nF]))).trans c⟩
theorem gp.grow(h:gp os S)(l:List O):gp (os++l) S:=h.of_same λj hj=>aJ (h.lt j hj)
theorem gp.other(h:gp os S)(hj:j∉idx S)(x:O):gp (os.set j x) S:=h.of_same λi hi=>bH (by intro q;subst q;exact hj hi)
structure my(os:List O)(S:Sr)(os':List O)(S':Sr):Prop where
 len:os.length<=os'.length
 keep:∀j,j<os.length->j∉idx S->os'[j]? =os[j]?
 idx:∀j∈Internal.idx S',j∈Internal.idx S∨os.length<=j
theorem my.refl:my os S os S:=⟨ax _,λ_ _ _=>rfl,λ_ h=>.inl h⟩
theorem my.trans{Et:List O}{XS:Sr}(x:my os S os' S')(y:my os' S' Et XS):my os S Et XS:=
 ⟨ai x.len y.len,λj h1 h2=>(y.keep j (ag h1 x.len) λh=>(x.idx j h).elim h2 λh=>absurd h1 (cC.mpr h)).trans (x.keep j h1 h2),
  λj hj=>(y.idx j hj).elim (λh=>x.idx j h) λh=>.inr (ai x.len h)⟩
theorem my.grow(l:List O):my os S (os++l) S:=⟨by simp,λj h _=>aJ h,λj h=>.inl h⟩
theorem my.set(hj:j∈Internal.idx S)(x:O):my os S (os.set j x) S:=⟨by simp,λi _ hi=>bH (by intro q;subst q;exact hi hj),λi h=>.inl h⟩
theorem my.Lo{XS:Sr}(x:my os S os' S')(h:∀j∈Internal.idx XS,j∈Internal.idx S'∨os.length<=j):my os S os' XS:=⟨x.len,x.keep,λj hj=>(h j hj).elim (x.idx j) .inr⟩
noncomputable def upd(nm:Str)(f:Nd->Nd)(l:List Nd):List Nd:=l.map λy=>if y.nm=nm then f y else y
theorem Je{f:Nd->Nd}(hf:∀y,nF (f y)=nF y)(l:List Nd):(upd nm f l).flatMap nF=l.flatMap nF:=by
 induction l with
 |nil=>rfl
 |cons y r ih=>
  unfold upd at ih ⊢;rw [bx,bz,bz,ih];split
  ·rw [hf]
  ·rfl
theorem tj{f:Nd->Nd}{g:Nd->α}(hf:∀y,g (f y)=g y)(l:List Nd):(upd nm f l).map g=l.map g:=by
 unfold upd;refine (dk).trans ?_;apply d7;intro y _;show g (if y.nm=nm then f y else y)=g y;split
 ·exact hf y
 ·rfl
theorem vG{l:List Nd}(h:(l.map (·.nm)).Nodup){x y:Nd}(hx:x∈l)(hy:y∈l)(e:x.nm=y.nm):x=y:=by
 induction l with
 |nil=>exact absurd hx aU
 |cons a r ih=>
  rw [bx,bu] at h;rcases jJ hx with qm|qm<;>rcases jJ hy with hy1|hy1
  ·exact qm.trans hy1.symm
  ·exact absurd (aT.mpr ⟨y,hy1,by rw [←qm];exact e.symm⟩) h.1
  ·exact absurd (aT.mpr ⟨x,qm,by rw [←hy1];exact e⟩) h.1
  ·exact ih h.2 qm hy1
theorem gp.apart(h:gp os S){x y:Nd}(hx:x∈S.df)(hy:y∈S.df)(hn:x.nm≠y.nm):∀a∈nF x,a∉nF y:=by
 have hnd:(S.df.flatMap nF).Nodup:=by
  have:=h.nodup;simp only [idx,bu,bk] at this;exact this.2.2.2.2.1
 have:∀l:List Nd,(l.flatMap nF).Nodup->x∈l->y∈l->∀a∈nF x,a∉nF y:=by
  intro l;induction l with
  |nil=>intro _ hx;cases hx
  |cons b r ih=>
   intro hl hx hy a ha hb;rw [bz,bk] at hl;rcases jJ hx with qm|qm<;>rcases jJ hy with hy1|hy1
   ·exact hn (by rw [qm,hy1])
   ·exact hl.2.2 a (qm▸ha) a (cI.mpr ⟨y,hy1,hb⟩) rfl
   ·exact hl.2.2 a (hy1▸hb) a (cI.mpr ⟨x,qm,ha⟩) rfl
   ·exact ih hl.2.1 qm hy1 a ha hb
 exact this _ hnd hx hy
theorem gp.head(h:gp os S){x:Nd}(hx:x∈S.df){a:Nat}(ha:a∈nF x):a≠S.i/\a≠S.d/\a≠S.hJ/\a∉Ci S.rd:=by
 have hm:a∈S.df.flatMap nF:=cI.mpr ⟨x,hx,ha⟩;have:=h.nodup;simp only [idx,bu,aY,aG,not_or,bk] at this;refine iQ this λq'1 q'2 q'3 Xh h11 h12=>?_;obtain ⟨h1,h2,h3,h4⟩:=q'1;obtain ⟨h5,h6,h7⟩:=q'2;obtain ⟨h8,h9⟩:=q'3;exact ⟨λq=>h4 (q▸hm),λq=>h7 (q▸hm),λq=>h9 (q▸hm),λq=>h12 a q a hm rfl⟩
theorem xW{x:Nd}(hx:x∈S.df){a:Nat}(ha:a∈nF x):a∈idx S:=by
 simp only [idx,aY,aG];exact .inr (.inr (.inr (.inr (cI.mpr ⟨x,hx,ha⟩))))
theorem Bf:∀{l:List Nd}{x:Nd},(l.flatMap nF).Nodup->x∈l->(nF x).Nodup
 |b::r,x,h,hx=>by
  rw [bz,bk] at h;rcases jJ hx with qm|qm
  ·rw [qm];exact h.1
  ·exact Bf h.2.1 qm
theorem gp.Jf(h:gp os S){x:Nd}(hx:x∈S.df)(v:Int):gp (os.set x.info (EB {x with np:=v})) {S with df:=upd x.nm (λy=>{y with np:=v}) S.df}/\my os S (os.set x.info (EB {x with np:=v})) {S with df:=upd x.nm (λy=>{y with np:=v}) S.df}:=by
 have hxi:x.info∈nF x:=by exact fg
 refine iz (h.head hx hxi) λg1 g2 g3 g4=>?_;refine cT (h.nd x hx) λn1 n2 n3=>?_;have Ip:x.info≠x.dd/\x.info≠x.su:=by
  have:(S.df.flatMap nF).Nodup:=by
   have:=h.nodup;simp only [idx,bu,bk] at this;exact this.2.2.2.2.1
  have Ys:(nF x).Nodup:=Bf this hx;simp only [nF,bu,aY,c8,or_false,not_or] at Ys;exact Ys.1
 have hidx:idx {S with df:=upd x.nm (λy=>{y with np:=v}) S.df}=idx S:=by
  unfold idx;simp only;rw [Je (f:=λy=>{y with np:=v}) (λy=>rfl)]
 refine ⟨⟨bC h.inst g1,bC h.ns g2,?_,λy hy=>?_,λr l hr=>bC (h.rd r l hr) (λq=>g4 (by show x.info∈Ci S.rd;rw [show S.rd=af (r,l) from hr];simp [Ci,q])),by rw [hidx];exact h.nodup,?_⟩,(my.set (xW hx hxi) _).Lo λj hj=>.inl (hidx▸hj)⟩
 ·show (os.set x.info _)[S.hJ]? =_;rw [tj (f:=λy=>{y with np:=v}) (g:=λx=>(x.nm,ir x.info)) (λy=>rfl)];exact bC h.dict g3
 ·refine aR (aT.mp hy) λy_0 pP q'4=>?_;obtain rfl:=q'4;by_cases hn:y_0.nm=x.nm
  ·obtain rfl:=vG h.names pP hx hn;simp only [if_true];exact ⟨dA n1,bC n2 Ip.1,bC n3 Ip.2⟩
  ·simp only [hn,if_false];refine cT (h.nd y_0 pP) λm1 m2 m3=>?_;have:=h.apart hx pP (λq=>hn q.symm) x.info hxi;simp only [nF,aY,c8,or_false,not_or] at this;exact ⟨bC m1 this.1,bC m2 this.2.1,bC m3 this.2.2⟩
 ·show ((upd x.nm _ S.df).map (·.nm)).Nodup;rw [tj (f:=λy=>{y with np:=v}) (g:=λx=>x.nm) (λy=>rfl)];exact h.names
end
variable{S:Sr}
section
variable{S':Sr}
theorem gp.flat(h:gp os S):(S.df.flatMap nF).Nodup:=by
 have:=h.nodup;simp only [idx,bu,bk] at this;exact this.2.2.2.2.1
theorem gp.ndn(h:gp os S){x:Nd}(hx:x∈S.df):x.info≠x.dd/\x.info≠x.su/\x.dd≠x.su:=by
 have:=Bf h.flat hx;simp only [nF,bu,aY,c8,or_false,not_or] at this;exact ⟨this.1.1,this.1.2,this.2.1⟩
theorem gp.Wn(h:gp os S){x:Nd}(hx:x∈S.df)(f:Nd->Nd)(hf:∀y,(f y).nm=y.nm/\nF (f y)=nF y)(hs:∀j,j∉nF x->os'[j]? =os[j]?)(hl:os.length<=os'.length)(h1:os'[x.info]? =af (EB (f x)))(h2:os'[x.dd]? =af (.ns []))(h3:os'[x.su]? =af (.list ((f x).ss.map .str))):
  gp os' {S with df:=upd x.nm f S.df}/\my os S os' {S with df:=upd x.nm f S.df}:=by
 have hidx:idx {S with df:=upd x.nm f S.df}=idx S:=by
  unfold idx;simp only;rw [Je λy=>(hf y).2]
 have JO:∀a,a=S.i∨a=S.d∨a=S.hJ∨a∈Ci S.rd->a∉nF x:=λa ha hm=>by
  refine iz (h.head hx hm) λg1 g2 g3 g4=>?_;rcases ha with q|q|q|q
  ·exact g1 q
  ·exact g2 q
  ·exact g3 q
  ·exact g4 q
 have Rx:∀y,(f y).info=y.info/\(f y).dd=y.dd/\(f y).su=y.su:=λy=>by
  have:=(hf y).2;simp only [nF,List.cons.injEq,and_true] at this;exact this
 refine ⟨⟨(hs _ (JO _ (.inl rfl))).trans h.inst,(hs _ (JO _ (.inr (.inl rfl)))).trans h.ns,?_,λy hy=>?_,λr l hr=>(hs r (JO r (.inr (.inr (.inr (by show r∈Ci S.rd;rw [show S.rd=af (r,l) from hr];exact fg)))))).trans (h.rd r l hr),by rw [hidx];exact h.nodup,?_⟩,⟨hl,λj _ hj=>hs j λhm=>hj (xW hx hm),λj hj=>.inl (hidx▸hj)⟩⟩
 ·show os'[S.hJ]? =af (.dict ((upd x.nm f S.df).map λx=>(x.nm,ir x.info)));rw [tj (f:=f) (g:=λx=>(x.nm,ir x.info)) (λy=>by simp only [(hf y).1,(Rx y).1])];exact (hs _ (JO _ (.inr (.inr (.inl rfl))))).trans h.dict
 ·refine aR (aT.mp hy) λy_0 pP q'1=>?_;obtain rfl:=q'1;by_cases hn:y_0.nm=x.nm
  ·obtain rfl:=vG h.names pP hx hn;simp only [if_true];rw [(Rx y_0).1,(Rx y_0).2.1,(Rx y_0).2.2];exact ⟨h1,h2,h3⟩
  ·simp only [hn,if_false];refine cT (h.nd y_0 pP) λm1 m2 m3=>?_;have ap:=h.apart pP hx hn;exact ⟨(hs _ (ap _ (by exact fg))).trans m1,(hs _ (ap _ (by simp [nF]))).trans m2,(hs _ (ap _ (by simp [nF]))).trans m3⟩
 ·show ((upd x.nm f S.df).map (·.nm)).Nodup;rw [tj (f:=f) (g:=λx=>x.nm) (λy=>(hf y).1)];exact h.names
theorem Jg{x:O}(hn:j≠i):(os.set j x)[i]? =os[i]? :=bH hn
theorem gp.Wo(h:gp os S){x:Nd}(hx:x∈S.df)(l:List Str):gp (os.set x.su (.list (l.map .str))) {S with df:=upd x.nm (λy=>{y with ss:=l}) S.df}/\my os S (os.set x.su (.list (l.map .str))) {S with df:=upd x.nm (λy=>{y with ss:=l}) S.df}:=by
 refine cT (h.nd x hx) λn1 n2 n3=>?_;refine cT (h.ndn hx) λd1 d2 d3=>?_;exact h.Wn hx (λy=>{y with ss:=l}) (λy=>⟨rfl,rfl⟩) (λj hj=>Jg (by rintro rfl;exact hj (by simp [nF]))) (by simp) (bC n1 (λq=>d2 q.symm)) (bC n2 (λq=>d3 q.symm)) (dA n3)
theorem Jh{hJ:Nat}{rd:V}{po fi v:Int}:jY (uY hJ rd po fi) "_npassedout" (.int v)=uY hJ rd v fi:=by rfl
theorem Ji{hJ:Nat}{rd:V}{po fi v:Int}:jY (uY hJ rd po fi) "_nfinished" (.int v)=uY hJ rd po v:=by rfl
theorem Jj{hJ:Nat}{rd w:V}{po fi:Int}:jY (uY hJ rd po fi) "_ready_nodes" w=uY hJ w po fi:=by rfl
theorem Jk{hJ:Nat}{rd:V}{po fi:Int}:lookE (uY hJ rd po fi) "_node2info" =af (.ref hJ)/\lookE (uY hJ rd po fi) "_ready_nodes" =af rd/\lookE (uY hJ rd po fi) "_npassedout" =af (.int po)/\lookE (uY hJ rd po fi) "_nfinished" =af (.int fi):=by
 trivial
theorem gp.headApart(h:gp os S):S.i≠S.d/\S.i≠S.hJ/\S.d≠S.hJ/\(∀r∈Ci S.rd,S.i≠r/\S.d≠r/\S.hJ≠r)/\∀x∈S.df,∀a∈nF x,S.i≠a/\S.d≠a/\S.hJ≠a:=by
 have:=h.nodup;simp only [idx,bu,aY,aG,not_or,bk] at this;refine iQ this λq'2 q'3 q'4 Xh h11 h12=>?_;obtain ⟨h1,h2,h3,h4⟩:=q'2;obtain ⟨h5,h6,h7⟩:=q'3;obtain ⟨h8,h9⟩:=q'4;refine ⟨h1,h2,h5,λr hr=>⟨λq=>h3 (q▸hr),λq=>h6 (q▸hr),λq=>h8 (q▸hr)⟩,λx hx a ha=>?_⟩;have hm:a∈S.df.flatMap nF:=cI.mpr ⟨x,hx,ha⟩;exact ⟨λq=>h4 (q▸hm),λq=>h7 (q▸hm),λq=>h9 (q▸hm)⟩
theorem gp.R3(h:gp os S)(po fi:Int):gp (os.set S.d (.ns (uY S.hJ (rdV S.rd) po fi))) {S with po:=po,fi:=fi}/\my os S (os.set S.d (.ns (uY S.hJ (rdV S.rd) po fi))) {S with po:=po,fi:=fi}:=by
 refine iJ h.headApart λa1 a2 a3 a4 a5=>?_;refine ⟨⟨bC h.inst (λq=>a1 q.symm),dA h.ns,bC h.dict a3,λx hx=>?_,λr l hr=>bC (h.rd r l hr) (a4 r (by show r∈Ci S.rd;rw [show S.rd=af (r,l) from hr];exact fg)).2.1,h.nodup,h.names⟩,(my.set (by simp [idx]) _).Lo λj hj=>.inl hj⟩;refine cT (h.nd x hx) λm1 m2 m3=>?_;exact ⟨bC m1 (a5 x hx _ (by exact fg)).2.1,bC m2 (a5 x hx _ (by simp [nF])).2.1,bC m3 (a5 x hx _ (by simp [nF])).2.1⟩
theorem gp.Wq(h:gp os S)(hr:os[r]? =af (.list (l.map .str)))(hn:r∉idx S)(h0:S.rd=ae):gp (os.set S.d (.ns (uY S.hJ (.ref r) S.po S.fi))) {S with rd:=af (r,l)}:=by
 refine iJ h.headApart λa1 a2 a3 a4 a5=>?_;have hn':r≠S.i/\r≠S.d/\r≠S.hJ/\r∉S.df.flatMap nF:=by
  simp only [idx,aY,aG,not_or] at hn;exact ⟨hn.1,hn.2.1,hn.2.2.1,hn.2.2.2.2⟩
 refine ⟨bC h.inst (λq=>a1 q.symm),dA h.ns,bC h.dict a3,λx hx=>?_,λr' l' hr'=>?_,?_,h.names⟩
 ·refine cT (h.nd x hx) λm1 m2 m3=>?_;exact ⟨bC m1 (a5 x hx _ (by exact fg)).2.1,bC m2 (a5 x hx _ (by simp [nF])).2.1,bC m3 (a5 x hx _ (by simp [nF])).2.1⟩
 ·obtain ⟨⟩:=hr';exact bC hr (λq=>hn'.2.1 q.symm)
 ·have:=h.nodup;simp only [idx,h0,Ci,ey,bu,aY,not_or] at this;simp only [idx,Ci,fT,ey,bu,aY,not_or];refine iz this λq'5 q'6 h6 h7=>?_;obtain ⟨h1,h2,h3⟩:=q'5;obtain ⟨h4,h5⟩:=q'6;exact ⟨⟨h1,h2,λq=>hn'.1 q.symm,h3⟩,⟨h4,λq=>hn'.2.1 q.symm,h5⟩,⟨λq=>hn'.2.2.1 q.symm,h6⟩,hn'.2.2.2,h7⟩
theorem gp.R4(h:gp os S)(h0:S.rd=af (r,l))(l':List Str):gp (os.set r (.list (l'.map .str))) {S with rd:=af (r,l')}/\my os S (os.set r (.list (l'.map .str))) {S with rd:=af (r,l')}:=by
 refine iJ h.headApart λa1 a2 a3 a4 a5=>?_;have hrd:Ci S.rd= [r]:=by refine h0▸ ?_;rfl
 refine cT (a4 r (by rw [hrd];exact fg)) λb1 b2 b3=>?_;have hidx:idx {S with rd:=af (r,l')}=idx S:=by unfold idx;simp only;refine hrd▸ ?_;rfl
 have hns:rdV S.rd= .ref r:=by refine h0▸ ?_;rfl
 have Xn:∀x∈S.df,∀a∈nF x,r≠a:=λx hx a ha q=>(h.head hx ha).2.2.2 (by rw [hrd,←q];exact fg);refine ⟨⟨bC h.inst (λq=>b1 q.symm),?_,bC h.dict (λq=>b3 q.symm),λx hx=>?_,λr' ZV hr'=>?_,by rw [hidx];exact h.nodup,h.names⟩,(my.set (by simp [idx,hrd]) _).Lo λj hj=>.inl (hidx▸hj)⟩
 ·have:=h.ns;rw [hns] at this;exact bC this (λq=>b2 q.symm)
 ·refine cT (h.nd x hx) λm1 m2 m3=>?_;exact ⟨bC m1 (Xn x hx _ (by exact fg)),bC m2 (Xn x hx _ (by simp [nF])),bC m3 (Xn x hx _ (by simp [nF]))⟩
 ·obtain ⟨⟩:=hr';exact dA (h.rd r l h0)
noncomputable def Bg(k:Nat)(nm:Str):List O:=[.ns [],.slots 40 k [af (.str nm),af (.int 0),af (.ref (k+2)),ae,ae],.list []]
theorem gp.Ws(h:gp os S)(hn:nm∉S.df.map (·.nm)):
  gp ((os++Bg os.length nm).set S.hJ (.dict ((S.df.map λx=>(x.nm,ir x.info))++ [(nm,.ref (os.length+1))]))) {S with df:=S.df++ [⟨nm,os.length+1,os.length,os.length+2,0,[]⟩]}/\
  my os S ((os++Bg os.length nm).set S.hJ (.dict ((S.df.map λx=>(x.nm,ir x.info))++ [(nm,.ref (os.length+1))]))) {S with df:=S.df++ [⟨nm,os.length+1,os.length,os.length+2,0,[]⟩]}:=by
 refine iJ h.headApart λa1 a2 a3 a4 a5=>?_;have l3:=aX h.dict;have hidx:∀j,j∈idx {S with df:=S.df++ [⟨nm,os.length+1,os.length,os.length+2,0,[]⟩]}↔j∈idx S∨j=os.length+1∨j=os.length∨j=os.length+2:=λj=>by
  simp only [idx,ot,aY,aG,bz,ky,bB,nF,c8,or_false];constructor
  ·rintro (q|q|q|q|q|q)
   ·exact .inl (.inl q)
   ·exact .inl (.inr (.inl q))
   ·exact .inl (.inr (.inr (.inl q)))
   ·exact .inl (.inr (.inr (.inr (.inl q))))
   ·exact .inl (.inr (.inr (.inr (.inr q))))
   ·exact .inr q
  ·rintro ((q|q|q|q|q)|q)
   ·exact .inl q
   ·exact .inr (.inl q)
   ·exact .inr (.inr (.inl q))
   ·exact .inr (.inr (.inr (.inl q)))
   ·exact .inr (.inr (.inr (.inr (.inl q))))
   ·exact .inr (.inr (.inr (.inr (.inr q))))
 refine ⟨⟨bC (bI h.inst) (λq=>a2 q.symm),bC (bI h.ns) (λq=>a3 q.symm),?_,λx hx=>?_,λr l hr=>bC (bI (h.rd r l hr)) (a4 r (by show r∈Ci S.rd;rw [show S.rd=af (r,l) from hr];exact fg)).2.2,?_,?_⟩,⟨by simp,λj h1 h2=>?_,λj hj=>?_⟩⟩
 ·show (List.set _ S.hJ _)[S.hJ]? =_;rw [dA (bI h.dict),cw];rfl
 ·rcases aG.mp hx with hx|hx
  ·refine cT (h.nd x hx) λm1 m2 m3=>?_;exact ⟨bC (bI m1) (a5 x hx _ (by exact fg)).2.2,bC (bI m2) (a5 x hx _ (by simp [nF])).2.2,bC (bI m3) (a5 x hx _ (by simp [nF])).2.2⟩
  ·obtain rfl:=aL.mp hx;exact ⟨bC (wV 1) (by show S.hJ≠os.length+1;exact OX l3),bC cK (by show S.hJ≠os.length;exact bP l3),bC (wV 2) (by show S.hJ≠os.length+2;exact OX (gw l3))⟩
 ·have hnd:=h.nodup;have hlt:=h.lt;have e:idx {S with df:=S.df++ [⟨nm,os.length+1,os.length,os.length+2,0,[]⟩]}=idx S++ [os.length+1,os.length,os.length+2]:=by
   simp [idx,nF,ot,aQ]
  rw [e,bk];refine ⟨hnd,by simp,λa ha b hb q=>?_⟩;have:=hlt a ha;simp only [aY,c8,or_false] at hb;exact absurd this (cC.mpr (q▸hb.elim (λe=>e▸lF _) λe=>e.elim (λe=>e▸ax _) λe=>e▸aF _ 2))
 ·show ((S.df++ [(⟨nm,os.length+1,os.length,os.length+2,0,[]⟩:Nd)]).map (·.nm)).Nodup;rw [cw,bk];exact ⟨h.names,by exact iK rfl,λa ha b hb q=>by simp at hb;subst hb;subst q;exact hn ha⟩
 ·(refine (Jg (by rintro rfl;exact h2 (by simp [idx]))).trans ?_);exact aJ h1
 ·rcases (hidx j).mp hj with q|q|q|q
  ·exact .inl q
  ·exact .inr (eN (ar q.symm))
  ·exact .inr (by exact ar q.symm)
  ·exact .inr (ai (aF _ 2) (ar q.symm))
end
theorem dR(v:V)(z:List Nat)(s:eP):ec (.ret v) z s=af (v,s):=rfl
theorem bX{id:String}:eJ (cx P aj cQ ao) o (.bi id) as z ⟨fr,os⟩=(fh (cx P aj cQ ao) id o as z ⟨fr,os⟩).map λp=>(.ret p.1,p.2):=by
 unfold eJ;dsimp only;rw [if_pos (by rfl)];rw [FD];cases fh (cx P aj cQ ao) id o as z ⟨fr,os⟩<;>rfl
theorem KU:eJ (cx P aj cQ hd) o (.bi "list.pop") as z ⟨fr,os⟩=(fh (cx P aj cQ hd) "list.pop" o as z ⟨fr,os⟩).map λp=>(.ret p.1,p.2):=by
 unfold eJ;dsimp only;rw [if_pos (by simp)];rw [FD];cases fh (cx P aj cQ hd) "list.pop" o as z ⟨fr,os⟩<;>rfl
theorem tm{f:bj}(hk:j9 (Kw P) (.ref f)=ao):eJ (cx P aj cQ ao) o (.fn f) as z ⟨fr,os⟩=(cQ (.top f) (o::as) os z).map λp=>(p.1,⟨fr,p.2⟩):=gR hk
theorem k8{id:String}(h:os[i]? =af (.list xs))(hn:sT nm=af id):ew c (.ref i) nm z ⟨fr,os⟩=af (.bi id,⟨fr,os⟩):=(aZ (eL h z fr)).trans (aZ (ff (o:=idOf (.list xs) nm) hn z _))
theorem Ag{id:String}(h:os[i]? =af (.dict es))(hn:wH nm=af id):ew c (.ref i) nm z ⟨fr,os⟩=af (.bi id,⟨fr,os⟩):=(aZ (eL h z fr)).trans (aZ (ff (o:=idOf (.dict es) nm) hn z _))
theorem Ub{xs:List Str}{id:String}(h:os[i]? =af (.set xs))(hn:LL nm=af id):ew c (.ref i) nm z ⟨fr,os⟩=af (.bi id,⟨fr,os⟩):=(aZ (eL h z fr)).trans (aZ (ff (o:=idOf (.set xs) nm) hn z _))
theorem ru{id:String}(hn:Ax nm=af id):ew c (.str x) nm z ⟨fr,os⟩=af (.bi id,⟨fr,os⟩):=aZ (ff hn z _)
theorem mK:sT "append" =af "list.append" :=by rfl
theorem KW:sT "extend" =af "list.extend" :=by rfl
theorem M6:sT "clear" =af "list.clear" :=by rfl
theorem M7:sT "pop" =af "list.pop" :=by rfl
theorem M8:sT "index" =af "list.index" :=by rfl
theorem DY:wH "get" =af "dict.get" :=by rfl
theorem KY:wH "values" =af "dict.values" :=by rfl
theorem Uc:LL "add" =af "set.add" :=by rfl
theorem M9:Ax "lower" =af "str.lower" :=by rfl
theorem vH:Ax "join" =af "str.join" :=by rfl
theorem Na{s:eP}:fh c "list.append" o as z s=z5 c o as z s:=by kernel_rfl
theorem Nb{s:eP}:fh c "list.extend" o as z s=Dh c o as z s:=by kernel_rfl
theorem Qr{s:eP}:fh c "list.clear" o as z s=GS c o as z s:=by kernel_rfl
theorem Wt{s:eP}:fh c "list.pop" o as z s=SP c o as z s:=by kernel_rfl
theorem Qs{s:eP}:fh c "list.index" o as z s=GU c o as z s:=by kernel_rfl
theorem Nc{s:eP}:fh c "dict.get" o as z s=LN c o as z s:=by kernel_rfl
theorem m_values{s:eP}:fh c "dict.values" o as z s=Di c o as z s:=by kernel_rfl
theorem Ud{s:eP}:fh c "set.add" o as z s=LO c o as z s:=by kernel_rfl
theorem m_lower{s:eP}:fh c "str.lower" o as z s=GV o as z s:=by kernel_rfl
theorem Ue{s:eP}:fh c "str.join" o as z s=IG c o as z s:=by kernel_rfl
theorem pH(h:os[i]? =af (.list xs))(hz:i∉z)(hs:xs.length+1<=1000000):fh c "list.append" (.ref i) [v] z ⟨fr,os⟩=af (.none,⟨fr,os.set i (.list (xs++ [v]))⟩):=Na.trans ((aZ (eL h z fr)).trans (aZ (lR (o:=.list (xs++ [v])) h (decide_eq_true (by simpa using hs)) hz fr)))
theorem Qt(h:os[i]? =af (.list xs))(hz:i∉z):fh c "list.clear" (.ref i) [] z ⟨fr,os⟩=af (.none,⟨fr,os.set i (.list [])⟩):=Qr.trans ((aZ (eL h z fr)).trans (aZ (lR (o:=.list []) h rfl hz fr)))
theorem R5(h:os[i]? =af (.list (xs++ [v])))(hz:i∉z)(hs:xs.length<=1000000):fh c "list.pop" (.ref i) [] z ⟨fr,os⟩=af (v,⟨fr,os.set i (.list xs)⟩):=by
 refine Wt.trans ((aZ (eL h z fr)).trans ((aZ (ff (a:=v) List.getLast?_concat z _)).trans ?_));rw [List.dropLast_concat];exact aZ (lR (o:=.list xs) h (decide_eq_true hs) hz fr)
theorem Nf{k:Str}(h:os[i]? =af (.dict es)):fh c "dict.get" (.ref i) [.str k] z ⟨fr,os⟩=af ((lookE es k).getD .none,⟨fr,os⟩):=Nc.trans (aZ (eL h z fr))
theorem Ng(h:os[i]? =af (.dict es)):fh c "dict.values" (.ref i) [] z ⟨fr,os⟩=af (.ref os.length,⟨fr,os++ [.values i]⟩):=m_values.trans ((aZ (eL h z fr)).trans (dW rfl z fr os))
theorem Wu{xs:List Str}{v:Str}(h:os[i]? =af (.set xs))(hz:i∉z)(hs:xs.length<3999):fh c "set.add" (.ref i) [.str v] z ⟨fr,os⟩=af (.none,⟨fr,os.set i (.set (if v∈xs then xs else xs++ [v]))⟩):=Ud.trans ((aZ (eL h z fr)).trans (aZ (lR (o:=.set (if v∈xs then xs else xs++ [v])) h (decide_eq_true (by split<;>first|omega|(rw [aq];exact zo hs))) hz fr)))
theorem m_ord{s:eP}:Pj c "ord" as z s=SS as z s:=by kernel_rfl
theorem Wv{s:eP}:Pj c "chr" as z s=Ph as z s:=by kernel_rfl
theorem Ug{s:eP}:Pj c "iter" as z s=LP c as z s:=by kernel_rfl
theorem Qu{s:eP}:Az c "range" as z s=Dl as z s:=by kernel_rfl
theorem Qv{s:eP}:Az c "tuple" as z s=GW c as z s:=by kernel_rfl
theorem Uh{s:eP}:Az c "bool" as z s=LR c as z s:=by kernel_rfl
theorem Nh{id:String}(h:Pj (cx P aj cQ ao) id as z ⟨fr,os⟩=af (v,⟨fr,os'⟩)):dN (cx P aj cQ ao) (.bi id) as z ⟨fr,os⟩=af (.ret v,⟨fr,os'⟩):=(Ba (a:=Pj (cx P aj cQ ao) id as>>=λv=>aA (Ey v)) (b:=fail) (show (cx P aj cQ ao).hd=ao from rfl) z _).trans (aZ h)
theorem Ni{id:String}(h:Az (cx P aj cQ ao) id as z ⟨fr,os⟩=af (v,⟨fr,os'⟩)):dN (cx P aj cQ ao) (.type id) as z ⟨fr,os⟩=af (.ret v,⟨fr,os'⟩):=(Ba (a:=Az (cx P aj cQ ao) id as>>=λv=>aA (Ey v)) (b:=fail) (show (cx P aj cQ ao).hd=ao from rfl) z _).trans (aZ h)
theorem Jl(h:os[i]? =af (.list xs)∨os[i]? =af (.tuple xs)):dN (cx P aj cQ ao) (.bi "len") [.ref i] z ⟨fr,os⟩=af (.ret (.int xs.length),⟨fr,os⟩):=Nh (Eq.trans (b:=SR (cx P aj cQ ao) [.ref i] z ⟨fr,os⟩) (by kernel_rfl) (vQ h (λh=>aZ (eL h z fr)) λh=>aZ (eL h z fr)))
theorem yY{k:Str}(h:os[i]? =af (.dict es))(hk:lookE es k=af v):d0 c (.ref i) (.str k) z ⟨fr,os⟩=af (v,⟨fr,os⟩):=(aZ (eL h z fr)).trans (ff hk z _)
theorem xX{k:Str}(h:os[i]? =af (.dict es))(hz:i∉z)(hs:(jY es k v).length<=1000000):nA c (.ref i) (.str k) v z ⟨fr,os⟩=af ((),⟨fr,os.set i (.dict (jY es k v))⟩):=(aZ (eL h z fr)).trans (lR (o:=.dict (jY es k v)) h (decide_eq_true hs) hz fr)
theorem KZ(hz:∀j∈z,j<os.length):ic (cx P aj cQ ao) z ⟨[("self",.ref (os.length+1)),("node",.str nm)],os++ [.ns [],.slots 40 os.length (gW 5 ae)]⟩=
  af (.next,⟨[("self",.ref (os.length+1)),("node",.str nm)],os++Bg os.length nm⟩):=by
 have nz:os.length+1∉z:=λh=>by have:=hz _ h;exact (iu this).elim
 have step:∀(fr:eB) (vs:List (Option V)) (l:List O) (a:Str) (v:V) (p k:Nat),sS (Kw P) 40 a=af (p,k)->qM (Kw P) 40 a=af (af (.ref p))->k<vs.length->k<1000->d8 (cx P aj cQ ao) (.ref (os.length+1)) a v z ⟨fr,os++ .ns []:: .slots 40 os.length vs::l⟩=af ((),⟨fr,os++ .ns []:: .slots 40 os.length (vs.set k (af v))::l⟩):=λfr vs l a v p k h1 h2 h3 h4=>by
  rw [wU (d:=os.length) (es:=[]) (wV 1) cK h1 h2 h3 h4 nz,Jd];rfl
 have s1:=λfr=>step fr (gW 5 ae) [] "node" (.str nm) 41 0 (T9 P).1 (T9 P).2 (by decide) (by decide);have s2:=λfr=>step fr [af (.str nm),ae,ae,ae,ae] [] "npredecessors" (.int 0) 42 1 (FF P).1 (FF P).2 (by exact iK rfl) (by decide);have s3:=λfr=>step fr [af (.str nm),af (.int 0),ae,ae,ae] [.list []] "successors" (.ref (os.length+2)) 43 2 (M0 P).1 (M0 P).2 (by exact iK rfl) (by decide);simp only [gW,List.set] at s1 s2 s3;have a1:∀fr,alloc (.list []) z ⟨fr,os++ [.ns [],.slots 40 os.length [af (.str nm),af (.int 0),ae,ae,ae]]⟩=af (.ref (os.length+2),⟨fr,os++ .ns []:: .slots 40 os.length [af (.str nm),af (.int 0),ae,ae,ae]:: [.list []]⟩):=λfr=>by
  have h:=dW (o:=.list []) rfl z fr (os++ [.ns [],.slots 40 os.length [af (.str nm),af (.int 0),ae,ae,ae]]);rw [aQ,aq] at h;exact h
 show ic _ z ⟨_,os++ [.ns [],.slots 40 os.length [ae,ae,ae,ae,ae]]⟩=_;(delta ic;with_reducible repeat' (first|apply s1|apply s2|apply a1|apply s3|exact br|apply bt|apply bq|apply bE|exact ba|apply bg (by decide)|apply aO|with_unfolding_all rfl))
theorem Ui(hz:∀j∈z,j<os.length):cN P aj (n+1) (.top 40) [.str nm] os z=af (.ret (.ref (os.length+1)),os++Bg os.length nm):=by
 rw [Ua,KZ hz];rfl
theorem Uj:j9 (Kw P) (.ref 40)=ao:=by kernel_rfl
theorem Qw:j9 (Kw P) (.ref 137)=ao:=by kernel_rfl
theorem CV{l:List Nd}:lookE (l.map λx=>(x.nm,ir x.info)) nm=(l.find? λx=>x.nm=nm).map λx=>.ref x.info:=by
 induction l with
 |nil=>rfl
 |cons x r ih=>
  rw [bx,jx];dsimp only [lookE];by_cases h:x.nm=nm
  ·simp [h]
  ·simp [h,ih]
theorem xY{l:List Nd}(hn:(l.map (·.nm)).Nodup){x:Nd}(hx:x∈l):lookE (l.map λx=>(x.nm,ir x.info)) x.nm=af (.ref x.info):=by
 refine (CV).trans ?_;induction hf:l.find? (λy=>y.nm=x.nm) using aw with
 |none=>rw [xh] at hf;exact absurd (decide_eq_true rfl) (hf x hx)
 |some y=>
  have h1:=qu hf;have h2:=z1 hf;rw [vG hn h1 hx (by simpa using h2)];rfl
theorem K0{l:List Nd}(hn:nm∉l.map (·.nm)):lookE (l.map λx=>(x.nm,ir x.info)) nm=ae:=by
 refine (CV).trans ?_;induction hf:l.find? (λy=>y.nm=nm) using aw with
 |none=>rfl
 |some y=>
  have h1:=qu hf;have h2:=z1 hf;exact absurd (aT.mpr ⟨y,h1,by simpa using h2⟩) hn
theorem gp.attr(h:gp os S)(fr:eB)(z:List Nat)(hd:Bool):eD (cx P aj cQ hd) (.ref S.i) "_node2info" z ⟨fr,os⟩=af (.ref S.hJ,⟨fr,os⟩)/\eD (cx P aj cQ hd) (.ref S.i) "_ready_nodes" z ⟨fr,os⟩=af (rdV S.rd,⟨fr,os⟩)/\
  eD (cx P aj cQ hd) (.ref S.i) "_npassedout" z ⟨fr,os⟩=af (.int S.po,⟨fr,os⟩)/\eD (cx P aj cQ hd) (.ref S.i) "_nfinished" z ⟨fr,os⟩=af (.int S.fi,⟨fr,os⟩):=
 ⟨Af h.inst h.ns (by exact fg) Jk.1 rfl,Af h.inst h.ns (by exact iK rfl) Jk.2.1 (by cases S.rd<;>rfl),Af h.inst h.ns (by exact iK rfl) Jk.2.2.1 rfl,Af h.inst h.ns (by exact iK rfl) Jk.2.2.2 rfl⟩
theorem gp.DZ(h:gp os S){f:bj}(hk:tW P name f=ao)(hn:lookE (uY S.hJ (rdV S.rd) S.po S.fi) name=ae)(fr:eB)(z:List Nat)(hd:Bool):ew (cx P aj cQ hd) (.ref S.i) name z ⟨fr,os⟩=af (.fn f,⟨fr,os⟩):=Qm h.inst h.ns hk hn
theorem noName{hJ:Nat}{rd:V}{po fi:Int}:lookE (uY hJ rd po fi) "_get_nodeinfo" =ae/\lookE (uY hJ rd po fi) "add" =ae/\lookE (uY hJ rd po fi) "prepare" =ae/\lookE (uY hJ rd po fi) "get_ready" =ae/\lookE (uY hJ rd po fi) "is_active" =ae/\
  lookE (uY hJ rd po fi) "done" =ae/\lookE (uY hJ rd po fi) "_find_cycle" =ae:=by
 trivial
theorem Qx(h:gp os S){x:Nd}(hx:x∈S.df):cN P aj (n+1) (.top 80) [.ref S.i,.str x.nm] os z=af (.ret (.ref x.info),os):=by
 rw [oc];have a1:=λfr=>(h.attr (P:=P) (aj:=aj) (cQ:=cN P aj n) fr z ao).1;have a2:=λfr=>Ag (c:=cy P aj n) (z:=z) (fr:=fr) h.dict DY;have a3:=λfr=>Nf (c:=cy P aj n) (z:=z) (fr:=fr) (k:=x.nm) h.dict;rw [xY h.names hx] at a3;(delta lx;with_reducible repeat' (first|apply a1|apply a2|apply a3|exact dR _ _ _|exact br|apply bt|apply bq|apply bE|apply bO|exact ba|apply bg (by decide)|exact eZ|apply fL (by decide)|exact aI|apply aO|(apply b7;apply bX)|(apply pG;focus with_unfolding_all exact rfl)|(apply ite_no;focus exact bh)|apply gu|with_unfolding_all rfl))
theorem Qy(h:gp os S)(hn:nm∉S.df.map (·.nm))(hz:∀j∈z,j<os.length/\j∉idx S)(hl:S.df.length<1000):cN P aj (n+2) (.top 80) [.ref S.i,.str nm] os z=
  af (.ret (.ref (os.length+1)),(os++Bg os.length nm).set S.hJ (.dict ((S.df.map λx=>(x.nm,ir x.info))++ [(nm,.ref (os.length+1))]))):=by
 rw [oc];have a1:=λfr=>(h.attr (P:=P) (aj:=aj) (cQ:=cN P aj (n+1)) fr z ao).1;have a1':=λfr=>((h.grow (Bg os.length nm)).attr (P:=P) (aj:=aj) (cQ:=cN P aj (n+1)) fr z ao).1;have a2:=λfr=>Ag (c:=cy P aj (n+1)) (z:=z) (fr:=fr) h.dict DY;have a3:=λfr=>Nf (c:=cy P aj (n+1)) (z:=z) (fr:=fr) (k:=nm) h.dict;rw [K0 hn] at a3;have a4:=λfr=>gR (P:=P) (aj:=aj) (cQ:=cN P aj (n+1)) (z:=z) (fr:=fr) (os:=os) (as:=[.str nm]) Uj;have a5:=Ui (P:=P) (aj:=aj) (n:=n) (nm:=nm) (λj hj=>(hz j hj).1);have np:jY (S.df.map λx=>(x.nm,ir x.info)) nm (.ref (os.length+1))=(S.df.map λx=>(x.nm,ir x.info))++ [(nm,.ref (os.length+1))]:=by
  dsimp only [jY];rw [if_neg];intro q;rw [iX] at q;refine aR q λe he hq=>?_;refine aR (aT.mp he) λx hx q'1=>?_;obtain rfl:=q'1;exact hn (aT.mpr ⟨x,hx,by simpa using hq⟩)
 have a6:=λfr=>xX (c:=cy P aj (n+1)) (z:=z) (fr:=fr) (k:=nm) (v:=.ref (os.length+1)) (bI (l:=Bg os.length nm) h.dict) (λq=>(hz _ q).2 (by simp [idx])) (by refine np▸ ?_;simp;exact qk (bS hl) rfl);rw [np] at a6;(delta lx;with_reducible repeat' (first|apply a1|apply a1'|apply a2|apply a3|apply a5|apply a6|exact dR _ _ _|exact br|apply bt|apply bq|apply bE|apply bO|exact ba|apply bg (by decide)|exact oB|exact eZ|apply fL (by decide)|exact aI|apply aO|exact bA|(apply gA;apply a4)|(apply b7;apply bX)|(apply pG;focus with_unfolding_all exact rfl)|(apply bV;focus rfl)|apply gu))
abbrev NV:=Str × Int × List Str
noncomputable def nv(x:Nd):NV:=(x.nm,x.np,x.ss)
noncomputable def pI(l:List NV)(nm:Str):List NV:=if nm∈l.map (·.1) then l else l++ [(nm,0,[])]
noncomputable def rx(nm:Str)(g:NV->NV)(l:List NV):List NV:=l.map λy=>if y.1=nm then g y else y
noncomputable def tX(nm:Str):NV->NV:=λy=>(y.1,y.2.1,y.2.2++ [nm])
noncomputable def O2(k:Int):NV->NV:=λy=>(y.1,y.2.1+k,y.2.2)
noncomputable def Cj(l:List NV)(nm:Str)(ps:List Str):List NV:=ps.foldl (λl p=>rx p (tX nm) (pI l p)) (rx nm (O2 ps.length) (pI l nm))
structure Sz(S:Sr)(k:Nat):Prop where
 df:S.df.length+k<=900
 ss:∀x∈S.df,x.ss.length+k<=900
structure Lk(S S':Sr)(l:List NV):Prop where
 i:S'.i=S.i
 rd:S'.rd=S.rd
 po:S'.po=S.po
 fi:S'.fi=S.fi
 nv:S'.df.map nv=l
theorem Sz.less(h:Sz S k)(hj:j<=k):Sz S j:=⟨by have:=h.df;exact ai (bF hj _) this,λx hx=>by have:=h.ss x hx;exact ai (bF hj _) this⟩
section
variable{S':Sr}
theorem HM{f:Nd->Nd}{g:NV->NV}(hf:∀y,nv (f y)=g (nv y))(l:List Nd):(upd nm f l).map nv=rx nm g (l.map nv):=by
 unfold upd rx;rw [dk,dk];apply d7;intro y _;show nv (if y.nm=nm then f y else y)=if (nv y).1=nm then g (nv y) else nv y
 show nv (if y.nm=nm then f y else y)=if y.nm=nm then g (nv y) else nv y
 split
 ·exact hf y
 ·rfl
theorem FK(l:List Nd):(l.map nv).map (·.1)=l.map (·.nm):=by refine (dk).trans ?_;rfl
theorem Jm{f:Nd->Nd}{l:List Nd}{x:Nd}(hx:x∈l)(hn:x.nm=nm):f x∈upd nm f l:=aT.mpr ⟨x,hx,by exact (if_pos hn)⟩
end
abbrev Bh(z:List Nat)(os:List O)(S:Sr):Prop:=∀j∈z,j<os.length/\j∉idx S
theorem Bh.step{S':Sr}(h:Bh z os S)(f:my os S os' S'):Bh z os' S':=λj hj=>⟨ag (h j hj).1 f.len,λhm=>(f.idx j hm).elim (h j hj).2 λq=>absurd (h j hj).1 (cC.mpr q)⟩
theorem Jn(h:gp os S)(nm:Str)(hz:Bh z os S)(hs:Sz S (k+1)):∃os' S' x,cN P aj (n+2) (.top 80) [.ref S.i,.str nm] os z=af (.ret (.ref x.info),os')/\gp os' S'/\my os S os' S'/\Lk S S' (pI (S.df.map nv) nm)/\Sz S' k/\x∈S'.df/\x.nm=nm:=by
 by_cases hn:nm∈S.df.map (·.nm)
 ·refine aR (aT.mp hn) λx hx q'1=>?_;obtain rfl:=q'1;refine ⟨os,S,x,Qx h hx,h,my.refl,⟨rfl,rfl,rfl,rfl,?_⟩,hs.less (by exact aF _ _),hx,rfl⟩;unfold pI;rw [FK,if_pos hn]
 ·obtain ⟨h1,f1⟩:=h.Ws hn;have hb:=hs.df;refine ⟨_,_,_,Qy h hn hz (qk (RE hb) rfl),h1,f1,⟨rfl,rfl,rfl,rfl,?_⟩,⟨by simp;exact VB hb,λx hx=>?_⟩,cH _ (fg ..),rfl⟩
  ·show (S.df++ [_]).map nv=_;unfold pI;rw [FK,if_neg hn,cw];rfl
  ·rcases aG.mp hx with hx|hx
   ·have:=hs.ss x hx;exact bS this
   ·obtain rfl:=aL.mp hx;simp;exact eN (ai (dH _ _) hb)
theorem Nj(h:gp os S)(p:Str)(hS:getF fr "self" =af (.ref S.i))(hN:getF fr "node" =af (.str nm))(hz:Bh z os S)(hs:Sz S (k+2)):∃ej os' S',ph (cy P aj (n+2)) (.str p) z ⟨fr,os⟩=af (.next,⟨ej,os'⟩)/\
  getF ej "self" =af (.ref S'.i)/\getF ej "node" =af (.str nm)/\gp os' S'/\my os S os' S'/\Lk S S' (rx p (tX nm) (pI (S.df.map nv) p))/\Sz S' k:=by
 refine dx (Jn (P:=P) (aj:=aj) (n:=n) h p hz (k:=k+1) hs) λGu S_1 x c1 h1 f1 l1 s1 r'2=>?_;refine dZ r'2 λhx hxn=>?_;subst hxn;have a1:=λfr=>h.DZ (P:=P) (aj:=aj) (cQ:=cN P aj (n+2)) (DV P) noName.1 fr z ao;have a2:=λfr o=>tm (P:=P) (aj:=aj) (cQ:=cN P aj (n+2)) (z:=z) (fr:=fr) (os:=os) (o:=o) (as:=[.str x.nm]) (jc (DV P));refine cT (h1.nd x hx) λn1 n2 n3=>?_;have a3:=λfr=>vF (P:=P) (aj:=aj) (cQ:=cN P aj (n+2)) (hd:=true) (z:=z) (fr:=fr) (v:=.ref x.su) n1 n2 (M0 P).1 rfl rfl;have a4:=λfr=>k8 (c:=cy P aj (n+2)) (z:=z) (fr:=fr) n3 mK;have hz1:=hz.step f1;have a5:=λfr=>pH (c:=cy P aj (n+2)) (z:=z) (fr:=fr) (v:=.str nm) n3 (λq=>(hz1 _ q).2 (xW hx (by simp [nF]))) (by have:=s1.ss x hx;rw [aH];exact qk (RE this) rfl);obtain ⟨h2,f2⟩:=h1.Wo hx (x.ss++ [nm]);have e5:(x.ss.map bp++ [bp nm])=(x.ss++ [nm]).map bp:=by simp
 rw [e5] at a5;refine ⟨putF (putF fr "pred" (.str x.nm)) "pred_info" (.ref x.info),_,_,?_,?_,?_,h2,f1.trans f2,⟨l1.i,l1.rd,l1.po,l1.fi,?_⟩,⟨?_,λy hy=>?_⟩⟩
 ·(delta ph;with_reducible repeat' (first|apply hS|apply hN|apply a1|apply c1|apply a3|apply a4|apply a5|exact dR _ _ _|exact br|apply bt|apply bq|apply bE|apply bO|exact aE|apply av (by decide)|apply aO|(apply gA;apply a2)|(apply b7;apply bX)|rfl))
 ·rw [b9,if_neg (by exact iK rfl),b9,if_neg (by exact iK rfl)];refine (hS).trans ?_;show _=af (ir S_1.i);exact (l1.i)▸rfl
 ·rw [b9,if_neg (by exact iK rfl),b9,if_neg (by exact iK rfl)];exact hN
 ·rw [HM (g:=λy=>(y.1,y.2.1,x.ss++ [nm])) (λy=>rfl),l1.nv];unfold rx;apply d7;intro y hy;rw [←l1.nv] at hy;refine aR (aT.mp hy) λy_0 pP q'3=>?_;obtain rfl:=q'3;show (if y_0.nm=x.nm then _ else _)=(if y_0.nm=x.nm then _ else _);split
  ·rename_i e
   obtain rfl:=vG h1.names pP hx e;rfl
  ·rfl
 ·show (upd x.nm _ S_1.df).length+k<=900;unfold upd;rw [aH];have:=s1.df;exact bS this
 ·refine aR (aT.mp hy) λy_0 pP q'4=>?_;obtain rfl:=q'4;have a:=s1.ss y_0 pP;have:=s1.ss x hx;split
  ·simp;exact VB this
  ·exact eN a
theorem Qz(turn:V->M Fl)(s:eP):fQ turn [] z s=af (.next,s):=rfl
theorem ig{turn:V->M Fl}{r:List V}{s s':eP}(h:turn v z s=af (.next,s')):fQ turn (v::r) z s=fQ turn r z s':=by
 dsimp only [fQ];refine (aZ h).trans ?_;induction r using aC<;>rfl
theorem Nk{turn:V->M Fl}{r:List V}{s s':eP}(h:turn v z s=af (.cont,s')):fQ turn (v::r) z s=fQ turn r z s':=by
 dsimp only [fQ];refine (aZ h).trans ?_;induction r using aC<;>rfl
theorem Jo{turn:V->M Fl}{w:V}{r:List V}{s s':eP}(h:turn v z s=af (.ret w,s')):fQ turn (v::r) z s=af (.ret w,s'):=by
 dsimp only [fQ];refine (aZ h).trans ?_;rfl
theorem Nl{s:eP}{r:Option (Src × eP)}(h:GY (cx P aj cQ ao) i z s=r):gI (cx P aj cQ ao) (.ref i) z s=r:=(show gI (cx P aj cQ ao) (.ref i) z s=GY (cx P aj cQ ao) i z s by kernel_rfl).trans h
theorem src_tuple(h:os[i]? =af (.tuple xs)):gI (cx P aj cQ ao) (.ref i) z ⟨fr,os⟩=af (⟨xs,af i⟩,⟨fr,os⟩):=Nl (aZ (eL h z fr))
theorem src_list(h:os[i]? =af (.list xs)):gI (cx P aj cQ ao) (.ref i) z ⟨fr,os⟩=af (⟨xs,af i⟩,⟨fr,os⟩):=Nl (aZ (eL h z fr))
theorem Nm(h:os[i]? =af (.dict es)):gI (cx P aj cQ ao) (.ref i) z ⟨fr,os⟩=af (⟨es.map λe=>.str e.1,af i⟩,⟨fr,os⟩):=Nl (aZ (eL h z fr))
theorem Y3:∀(ps:List Str) {os:List O}{S:Sr}{fr:eB}{k:Nat},gp os S->getF fr "self" =af (.ref S.i)->getF fr "node" =af (.str nm)->Bh z os S->Sz S (2*ps.length+k)->∃ej os' S',fQ (λv=>ph (cy P aj (n+2)) v) (ps.map .str) z ⟨fr,os⟩=af (.next,⟨ej,os'⟩)/\
  gp os' S'/\my os S os' S'/\Lk S S' (ps.foldl (λl p=>rx p (tX nm) (pI l p)) (S.df.map nv))/\Sz S' k:=by
 intro Ij;induction Ij with
 |nil=>
  intro os S fr k h hS hN hz hs;exact ⟨fr,os,S,Qz _ _,h,my.refl,⟨rfl,rfl,rfl,rfl,rfl⟩,hs.less (by exact dH _ _)⟩
 |cons p ps ih'=>
  intro os S fr k h hS hN hz hs;refine dx (Nj (P:=P) (aj:=aj) (n:=n) h p hS hN hz (k:=2*ps.length+k) (hs.less (by simp;exact ar (aN _ _ _)))) λC5 Gu S_1 e1 U6 hN1 h1 f1 r'1=>?_;refine dZ r'1 λl1 s1=>?_;refine jV (ih' h1 U6 hN1 (hz.step f1) s1) λwq XT S_2 e2 h2 f2 l2 s2=>?_;refine ⟨wq,XT,S_2,?_,h2,f1.trans f2,⟨l2.i.trans l1.i,l2.rd.trans l1.rd,l2.po.trans l1.po,l2.fi.trans l1.fi,?_⟩,s2⟩
  ·rw [bx,ig e1];exact e2
  ·rw [l2.nv,l1.nv];rfl
theorem Y4(h:gp os S)(h0:S.rd=ae){ps:List Str}{t:Nat}(ht:os[t]? =af (.tuple (ps.map .str)))(XU:t∉idx S)(hz:Bh z os S)(hs:Sz S (2*ps.length+k+1)):∃ej os' S',xP (cy P aj (n+2)) z ⟨[("self",.ref S.i),("node",.str nm),("predecessors",.ref t)],os⟩=af (.next,⟨ej,os'⟩)/\
  gp os' S'/\my os S os' S'/\Lk S S' (Cj (S.df.map nv) nm ps)/\Sz S' k:=by
 have a0:=λfr=>(h.attr (P:=P) (aj:=aj) (cQ:=cN P aj (n+2)) fr z ao).2.1;rw [h0] at a0;refine dx (Jn (P:=P) (aj:=aj) (n:=n) h nm hz (k:=2*ps.length+k) hs) λGu S_1 x c1 h1 f1 l1 s1 r'2=>?_;refine dZ r'2 λhx hxn=>?_;subst hxn;have hz1:=hz.step f1;have a1:=λfr=>h.DZ (P:=P) (aj:=aj) (cQ:=cN P aj (n+2)) (DV P) noName.1 fr z ao;have a2:=λfr o=>tm (P:=P) (aj:=aj) (cQ:=cN P aj (n+2)) (z:=z) (fr:=fr) (os:=os) (o:=o) (as:=[.str x.nm]) (jc (DV P));refine cT (h1.nd x hx) λn1 n2 n3=>?_;have ht1:Gu[t]? =af (.tuple (ps.map .str)):=(f1.keep t (aX ht) XU).trans ht;have XW:t∉idx S_1:=λq=>(f1.idx t q).elim XU λq=>absurd (aX ht) (cC.mpr q);have a3:=λfr=>vF (P:=P) (aj:=aj) (cQ:=cN P aj (n+2)) (hd:=true) (z:=z) (fr:=fr) (v:=.int x.np) n1 n2 (FF P).1 rfl rfl;have a4:=λfr=>Jl (P:=P) (aj:=aj) (cQ:=cN P aj (n+2)) (z:=z) (fr:=fr) (.inr ht1);have a5:=λfr=>wU (P:=P) (aj:=aj) (cQ:=cN P aj (n+2)) (hd:=true) (z:=z) (fr:=fr) (v:=.int (x.np+((ps.map bp).length:Nat))) n1 n2 (FF P).1 (FF P).2 (by exact iK rfl) (by decide) (λq=>(hz1 _ q).2 (xW hx (by exact fg)));have e5:(O.slots 40 x.dd ([af (.str x.nm),af (.int x.np),af (.ref x.su),ae,ae].set 1 (af (.int (x.np+((ps.map bp).length:Nat))))))=EB {x with np:=x.np+((ps.map bp).length:Nat)}:=rfl;rw [e5] at a5;obtain ⟨h2,f2⟩:=h1.Jf hx (x.np+((ps.map bp).length:Nat));have hz2:=hz1.step f2;have Xo:(Gu.set x.info (EB {x with np:=x.np+((ps.map bp).length:Nat)}))[t]? =af (.tuple (ps.map .str)):=(f2.keep t (aX ht1) XW).trans ht1;have ZW:t∉idx {S_1 with df:=upd x.nm (λy=>{y with np:=x.np+((ps.map bp).length:Nat)}) S_1.df}:=λq=>(f2.idx t q).elim XW λq=>absurd (aX ht1) (cC.mpr q);have s2:Sz {S_1 with df:=upd x.nm (λy=>{y with np:=x.np+((ps.map bp).length:Nat)}) S_1.df} (2*ps.length+k):=⟨by have:=s1.df;unfold upd;simp only [aH];exact this,λy hy=>by
  refine aR (aT.mp hy) λy_0 pP q'3=>?_;obtain rfl:=q'3;have:=s1.ss y_0 pP;split<;>exact this⟩
 have a6:=λfr=>src_tuple (aj:=aj) (P:=P) (cQ:=cN P aj (n+2)) (z:=z) (fr:=fr) Xo;refine jV (Y3 (P:=P) (aj:=aj) (n:=n) (z:=t::z) (nm:=x.nm) ps (fr:=[(ah "self",.ref S.i),(ah "node",.str x.nm),(ah "predecessors",.ref t),(ah "nodeinfo",.ref x.info)]) h2 (by simp only [getF,if_true];show af (ir S.i)=af (ir S_1.i);exact (l1.i)▸rfl) (by rfl) (λj hj=>by
  rcases jJ hj with rfl|hj
  ·exact ⟨aX Xo,ZW⟩
  ·exact hz2 j hj) s2) λSx Sy S_3 e3 h3 f3 l3 s3=>?_
 have ZX:dh (af t) (fQ (λv=>ph (cy P aj (n+2)) v) (ps.map bp)) z ⟨[("self",.ref S.i),("node",.str x.nm),("predecessors",.ref t),("nodeinfo",.ref x.info)],Gu.set x.info (EB {x with np:=x.np+((ps.map bp).length:Nat)})⟩=af (.next,⟨Sx,Sy⟩):=e3;refine ⟨Sx,Sy,S_3,?_,h3,(f1.trans f2).trans f3,⟨l3.i.trans l1.i,l3.rd.trans l1.rd,l3.po.trans l1.po,l3.fi.trans l1.fi,?_⟩,s3⟩
 ·(delta xP;with_reducible repeat' (first|apply a0|apply a1|apply c1|apply a3|apply a4|apply a5|apply a6|apply ZX|exact dR _ _ _|exact br|apply bt|apply bq|apply bE|apply bO|exact ba|apply bg (by decide)|exact eZ|apply fL (by decide)|exact aI|exact DX|apply aO|(apply gA;apply a2)|(apply oR;focus with_unfolding_all exact rfl)|(apply ite_no;focus decide)))
 ·refine (l3.nv).trans ?_;show pV _ ((upd x.nm _ S_1.df).map nv) ps=_;rw [HM (g:=λy=>(y.1,x.np+((ps.map bp).length:Nat),y.2.2)) (λy=>rfl),l1.nv];unfold Cj;congr 1;unfold rx;apply d7;intro y hy;rw [←l1.nv] at hy;refine aR (aT.mp hy) λy_0 pP q'4=>?_;obtain rfl:=q'4;show (if y_0.nm=x.nm then _ else _)=(if y_0.nm=x.nm then _ else _);split
  ·rename_i e
   obtain rfl:=vG h1.names pP hx e;dsimp only [O2,nv];rw [aH]
  ·rfl
structure Sk where
 x:Nd
 k:Nat
 q:Nat
 i:Nat
noncomputable def stkL(g:Sk->α):List Sk->List α
 | []=>[]
 |f::r=>stkL g r++ [g f]
noncomputable def mL:List Sk->List (Str × V)
 | []=>[]
 |f::r=>mL r++ [(f.x.nm,.int r.length)]
noncomputable def Bi(f:Sk):List Nat:=[f.q,f.i]
structure Ix where
 st:Nat
 uZ:Nat
 se:Nat
 ns:Nat
noncomputable def u0(I:Ix)(fw:List Sk):List Nat:=I.st::I.uZ::I.se::I.ns::fw.flatMap Bi
structure Fc(b:Nat)(os:List O)(S:Sr)(I:Ix)(fw:List Sk)(seen:List Str):Prop where
 Nn:gp os S
 low:∀j∈idx S,j<b
 st:os[I.st]? =af (.list (stkL (λf=>.str f.x.nm) fw))
 uZ:os[I.uZ]? =af (.list (stkL (λf=>.ref f.q) fw))
 se:os[I.se]? =af (.set seen)
 ns:os[I.ns]? =af (.dict (mL fw))
 fr:∀f∈fw,f.x∈S.df/\os[f.q]? =af (.next f.i)/\os[f.i]? =af (.kO f.x.su f.k)
 nodup:(u0 I fw).Nodup
 high:∀j∈u0 I fw,b<=j
 names:(fw.map (·.x.nm)).Nodup
section
variable{I:Ix}{fw:List Sk}
theorem gM(g:Sk->α):∀fw:List Sk,(stkL g fw).length=fw.length
 | []=>rfl
 |f::r=>by simp [stkL,gM g r]
theorem u3:∀fw:List Sk,(mL fw).length=fw.length
 | []=>rfl
 |f::r=>by simp [mL,u3 r]
theorem rS:∀fw:List Sk,(mL fw).map (·.1)=stkL (λf=>f.x.nm) fw
 | []=>rfl
 |f::r=>by simp [mL,stkL,rS r]
theorem pJ:∀{fw:List Sk},nm∈stkL (λf=>f.x.nm) fw↔nm∈fw.map (·.x.nm)
 | []=>by rfl
 |f::r=>by simp only [stkL,aG,pJ (fw:=r),aL,bx,aY,c8,or_false];exact Or.comm
theorem Fc.ne(h:Fc b os S I fw seen):I.st≠I.uZ/\I.st≠I.se/\I.st≠I.ns/\I.uZ≠I.se/\I.uZ≠I.ns/\I.se≠I.ns/\(∀f∈fw,∀j∈Bi f,j≠I.st/\j≠I.uZ/\j≠I.se/\j≠I.ns):=by
 have:=h.nodup;simp only [u0,bu,aY,not_or] at this;refine iJ this λq'1 q'2 q'3 XX Yy=>?_;obtain ⟨a1,a2,a3,a4⟩:=q'1;obtain ⟨a5,a6,a7⟩:=q'2;obtain ⟨a8,a9⟩:=q'3;refine ⟨a1,a2,a3,a5,a6,a8,λf hf j hj=>?_⟩;have hm:j∈fw.flatMap Bi:=cI.mpr ⟨f,hf,hj⟩;exact ⟨λq=>a4 (q▸hm),λq=>a7 (q▸hm),λq=>a9 (q▸hm),λq=>XX (q▸hm)⟩
theorem Fc.rz(h:Fc b os S I fw seen)(hj:b<=j)(x:O)(h':gp os' S):gp (os'.set j x) S:=h'.other (λq=>absurd (h.low j q) (cC.mpr hj)) x
theorem D0{f g:Sk}:∀{l:List Sk},(l.flatMap Bi).Nodup->(l.map (·.x.nm)).Nodup->f∈l->g∈l->f.x.nm≠g.x.nm->∀a∈Bi f,a∉Bi g
 |b::r,hl,hn,hx,hy,hne,a,ha,hb=>by
  rw [bz,bk] at hl;rw [bx,bu] at hn;rcases jJ hx with qm|qm<;>rcases jJ hy with hy1|hy1
  ·exact hne (by rw [qm,hy1])
  ·exact hl.2.2 a (qm▸ha) a (cI.mpr ⟨g,hy1,hb⟩) rfl
  ·exact hl.2.2 a (hy1▸hb) a (cI.mpr ⟨f,qm,ha⟩) rfl
  ·exact D0 hl.2.1 hn.2 qm hy1 hne a ha hb
theorem Fc.flat(h:Fc b os S I fw seen):(fw.flatMap Bi).Nodup:=by
 have:=h.nodup;simp only [u0,bu] at this;exact this.2.2.2.2
end
theorem Np{k:Str}(hk:k∉es.map (·.1)):B3 (es++ [(k,v)]) k=es:=by
 unfold B3;rw [qd];have h1:es.filter (λe=>decide (e.1≠k))=es:=v7.mpr λe he=>decide_eq_true λq=>hk (aT.mpr ⟨e,he,q⟩);rw [h1];simp
theorem K1{k:Str}(hk:k∉es.map (·.1)):lookE (es++ [(k,v)]) k=af v:=by
 induction es with
 |nil=>simp [lookE]
 |cons e r ih=>
  simp only [bx,aY,not_or] at hk;refine fT▸ ?_;dsimp only [lookE];refine (if_neg (λq=>hk.1 q.symm)).trans ?_;exact ih hk.2
theorem Uk{k:Str}(h:os[i]? =af (.dict es))(hk:(lookE es k).isSome=ao)(hz:i∉z)(hs:es.length<=1000000):xy c (.ref i) (.str k) z ⟨fr,os⟩=af ((),⟨fr,os.set i (.dict (B3 es k))⟩):=by
 refine (aZ (eL h z fr)).trans ((Ba hk z _).trans (lR (o:=.dict (B3 es k)) h (decide_eq_true ?_) hz fr));unfold B3;exact ai (cJ ..) hs
theorem Bj(h:os[i]? =af (.list (xs++ [v]))):d0 c (.ref i) (.int (-1)) z ⟨fr,os⟩=af (v,⟨fr,os⟩):=by
 have hp:qV (-1) (xs++ [v]).length=af xs.length:=by
  unfold qV;refine (if_pos (by decide)).trans ?_;unfold oV;simp only [aq,bb,lq];first|(simp;done)|(simp;exact by rw [m1q];exact ⟨⟨dY _,Int.lt_succ _⟩,me _⟩)|skip
 refine (aZ (eL h z fr)).trans (ff ?_ z _);rw [hp,ct,bT (ax _),mf];rfl
theorem Nq(h:os[i]? =af (.list xs)):cV c (.ref i) z ⟨fr,os⟩=af (!xs.isEmpty,⟨fr,os⟩):=aZ (eL h z fr)
noncomputable def Bk:List Sk->Option (Str × List Sk)
 | []=>ae
 |f::r=>match f.x.ss[f.k]? with
  |some y=>af (y,{f with k:=f.k+1}::r)
  |none=>Bk r
structure HN(fr:eB)(S:Sr)(I:Ix):Prop where
 hJ:getF fr "n2i" =af (.ref S.hJ)
 st:getF fr "stack" =af (.ref I.st)
 uZ:getF fr "itstack" =af (.ref I.uZ)
 se:getF fr "seen" =af (.ref I.se)
 ns:getF fr "node2stacki" =af (.ref I.ns)
theorem HN.put{I:Ix}(h:HN fr S I)(v:V):HN (putF fr "node" v) S I:=by
 refine ⟨?_,?_,?_,?_,?_⟩
 ·rw [b9,if_neg (by exact iK rfl)];exact h.hJ
 ·rw [b9,if_neg (by exact iK rfl)];exact h.st
 ·rw [b9,if_neg (by exact iK rfl)];exact h.uZ
 ·rw [b9,if_neg (by exact iK rfl)];exact h.se
 ·rw [b9,if_neg (by exact iK rfl)];exact h.ns
structure Hi(b:Nat)(os os':List O):Prop where
 len:os.length<=os'.length
 keep:∀j,j<b->os'[j]? =os[j]?
theorem Hi.refl:Hi b os os:=⟨ax _,λ_ _=>rfl⟩
theorem Hi.trans{Et:List O}(x:Hi b os os')(y:Hi b os' Et):Hi b os Et:=⟨ai x.len y.len,λj h=>(y.keep j h).trans (x.keep j h)⟩
theorem Hi.set(h:b<=j)(x:O):Hi b os (os.set j x):=⟨by simp,λi hi=>bH (by exact eM (ag hi h))⟩
theorem Hi.grow(h:b<=os.length)(l:List O):Hi b os (os++l):=⟨by simp,λi hi=>aJ (by exact ai hi h)⟩
section
variable{I:Ix}{fw:List Sk}
theorem Jp{f:Sk}{r:List Sk}:I.st∈u0 I (f::r)/\I.uZ∈u0 I (f::r)/\I.se∈u0 I (f::r)/\I.ns∈u0 I (f::r)/\f.q∈u0 I (f::r)/\f.i∈u0 I (f::r):=by
 simp [u0,Bi]
theorem Nr{f:Sk}{r:List Sk}(h:Fc b os S I (f::r) seen)(F:HN fr S I)(hz:∀j∈z,j<b)(hy:f.x.ss[f.k]? =af y):fR (cx P aj cQ ao) (cx P aj cQ bc) z ⟨fr,os⟩=af (.brk,⟨putF fr "node" (.str y),os.set f.i (.kO f.x.su (f.k+1))⟩)/\
  Fc b (os.set f.i (.kO f.x.su (f.k+1))) S I ({f with k:=f.k+1}::r) seen/\Hi b os (os.set f.i (.kO f.x.su (f.k+1))):=by
 refine cT (h.fr f (fg ..)) λhx hq hi=>?_;refine cT (h.Nn.nd f.x hx) λn1 n2 n3=>?_;refine iQ (Jp (I:=I) (f:=f) (r:=r)) λm1 m2 m3 m4 m5 m6=>?_;have hz':∀j∈u0 I (f::r),j∉z:=λj hj q=>absurd (hz j q) (cC.mpr (h.high j hj));have a1:=λfr=>Bj (c:=cx P aj cQ ao) (z:=z) (fr:=fr) h.uZ;have o1:=λfr=>eL (c:=cx P aj cQ ao) hq z fr;have o2:=λfr=>eL (c:=cx P aj cQ ao) hi z fr;have o3:=λfr=>eL (c:=cx P aj cQ ao) n3 z fr;have a2:=λfr=>lR (o:=.kO f.x.su (f.k+1)) hi rfl (hz' _ m6) fr;have hg:(f.x.ss.map bp)[f.k]? =af (.str y):=by rw [eg,hy];rfl
 refine iQ h.ne λ_ _ _ _ _ r'1=>?_;refine dZ r'1 λ_ ne=>?_;have Ry:=ne f (fg ..) f.i (by simp [Bi]);have flat:=h.flat;have fq:f.q≠f.i:=by
  rw [bz,bk] at flat;have:=flat.1;simp only [Bi,bu,aL] at this;exact this.1
 have hnm:=h.names;refine ⟨?_,⟨h.rz (h.high _ m6) _ h.Nn,h.low,bC h.st Ry.1,bC h.uZ Ry.2.1,bC h.se Ry.2.2.1,bC h.ns Ry.2.2.2,λg hg'=>?_,h.nodup,h.high,h.names⟩,Hi.set (h.high _ m6) _⟩
 ·(delta fR pk;with_reducible repeat' (first|apply a1|apply Qo hq hi n3 hg|apply a2|exact br|exact Be|apply bt|apply bq|apply bE F.uZ|apply bO rfl|exact Bc|with_unfolding_all rfl))
 ·rcases jJ hg' with rfl|hg'
  ·exact ⟨hx,bC hq (λq=>fq q.symm),dA hi⟩
  ·refine cT (h.fr g (i8 _ hg')) λk1 k2 k3=>?_;have hne:f.x.nm≠g.x.nm:=λq=>by
    rw [bx,bu] at hnm;exact hnm.1 (aT.mpr ⟨g,hg',q.symm⟩)
   have ap:=D0 flat hnm (fg ..) (i8 _ hg') hne f.i (by simp [Bi]);simp only [Bi,aY,c8,or_false,not_or] at ap;exact ⟨k1,bC k2 ap.1,bC k3 ap.2⟩
theorem FL{f:Sk}{r:List Sk}(h:Fc b os S I (f::r) seen)(F:HN fr S I)(hz:∀j∈z,j<b)(hy:f.x.ss[f.k]? =ae)(hl:(f::r).length<=1000):∃os',fR (cx P aj cQ ao) (cx P aj cQ bc) z ⟨fr,os⟩=af (.next,⟨fr,os'⟩)/\Fc b os' S I r seen/\Hi b os os':=by
 refine cT (h.fr f (fg ..)) λhx hq hi=>?_;refine cT (h.Nn.nd f.x hx) λn1 n2 n3=>?_;refine iQ (Jp (I:=I) (f:=f) (r:=r)) λm1 m2 m3 m4 m5 m6=>?_;have hz':∀j∈u0 I (f::r),j∉z:=λj hj q=>absurd (hz j q) (cC.mpr (h.high j hj));refine iQ h.ne λe1 e2 e3 e4 e5 r'2=>?_;refine dZ r'2 λe6 ne=>?_;have Ry:=ne f (fg ..) f.i (by simp [Bi]);simp only [bb] at hl;have a1:=λfr=>Bj (c:=cx P aj cQ ao) (z:=z) (fr:=fr) h.uZ;have o1:=λfr=>eL (c:=cx P aj cQ ao) hq z fr;have o2:=λfr=>eL (c:=cx P aj cQ ao) hi z fr;have o3:=λfr=>eL (c:=cx P aj cQ ao) n3 z fr;have a2:=λfr=>lR (o:=.dead) hi rfl (hz' _ m6) fr;have hg:(f.x.ss.map bp)[f.k]? =ae:=by rw [eg,hy];rfl
 have st1:(os.set f.i .dead)[I.st]? =af (.list (stkL (λf=>bp f.x.nm) r++ [.str f.x.nm])):=bC h.st Ry.1;have ZY:(os.set f.i .dead)[I.ns]? =af (.dict (mL (f::r))):=bC h.ns Ry.2.2.2;have Rz:(os.set f.i .dead)[I.uZ]? =af (.list (stkL (λf=>ir f.q) r++ [.ref f.q])):=bC h.uZ Ry.2.1;have OP:f.x.nm∉(mL r).map (·.1):=by
  rw [rS,pJ];have:=h.names;rw [bx,bu] at this;exact this.1
 have b1:=λfr=>k8 (c:=cx P aj cQ bc) (z:=z) (fr:=fr) st1 M7;have b2:=λfr=>R5 (c:=cx P aj cQ bc) (z:=z) (fr:=fr) st1 (hz' _ m1) (by rw [gM];exact qk (eN hl) rfl);have ns2:((os.set f.i .dead).set I.st (.list (stkL (λf=>bp f.x.nm) r)))[I.ns]? =af (.dict (mL (f::r))):=bC ZY e3;have b3:=λfr=>Uk (c:=cx P aj cQ bc) (z:=z) (fr:=fr) (k:=f.x.nm) ns2 (by show (lookE (mL r++ [_]) _).isSome=ao;refine (K1 OP)▸ ?_;rfl) (hz' _ m4) (by rw [u3];simp;exact qk (eN hl) rfl);have e7:B3 (mL (f::r)) f.x.nm=mL r:=Np OP;rw [e7] at b3;have U7:(((os.set f.i .dead).set I.st (.list (stkL (λf=>bp f.x.nm) r))).set I.ns (.dict (mL r)))[I.uZ]? =af (.list (stkL (λf=>ir f.q) r++ [.ref f.q])):=bC (bC Rz e1) (λq=>e5 q.symm);have b4:=λfr=>k8 (c:=cx P aj cQ bc) (z:=z) (fr:=fr) U7 M7;have b5:=λfr=>R5 (c:=cx P aj cQ bc) (z:=z) (fr:=fr) U7 (hz' _ m2) (by rw [gM];exact qk (eN hl) rfl);have sub:∀j∈u0 I r,j∈u0 I (f::r):=λj hj=>by
  simp only [u0,aY,bz,aG] at hj ⊢;rcases hj with q|q|q|q|q
  ·exact .inl q
  ·exact .inr (.inl q)
  ·exact .inr (.inr (.inl q))
  ·exact .inr (.inr (.inr (.inl q)))
  ·exact .inr (.inr (.inr (.inr (.inr q))))
 have flat:=h.flat;have hnm:=h.names;refine ⟨(((os.set f.i .dead).set I.st (.list (stkL (λf=>bp f.x.nm) r))).set I.ns (.dict (mL r))).set I.uZ (.list (stkL (λf=>ir f.q) r)),?_,⟨h.rz (h.high _ m2) _ (h.rz (h.high _ m4) _ (h.rz (h.high _ m1) _ (h.rz (h.high _ m6) _ h.Nn))),h.low,?_,?_,?_,?_,λg hg'=>?_,?_,λj hj=>h.high j (sub j hj),?_⟩,(((Hi.set (h.high _ m6) _).trans (Hi.set (h.high _ m1) _)).trans (Hi.set (h.high _ m4) _)).trans (Hi.set (h.high _ m2) _)⟩
 ·(delta fR pn;with_reducible repeat' (first|apply a1|apply Qp hq hi n3 hg|apply a2|apply b1|apply b2|apply b3|apply b4|apply b5|exact br|exact Be|apply bt|apply bq|apply bE F.uZ|apply bE F.st|apply bE F.ns|apply bO rfl|apply aO|(apply b7;apply KU)|with_unfolding_all rfl))
 ·exact bC (bC (dA st1) (λq=>e3 q.symm)) (λq=>e1 q.symm)
 ·exact dA U7
 ·exact bC (bC (bC (bC h.se Ry.2.2.1) e2) (λq=>e6 q.symm)) e4
 ·exact bC (dA ns2) e5
 ·refine cT (h.fr g (i8 _ hg')) λk1 k2 k3=>?_;have hne:f.x.nm≠g.x.nm:=λq=>by
   rw [bx,bu] at hnm;exact hnm.1 (aT.mpr ⟨g,hg',q.symm⟩)
  have ap:=D0 flat hnm (fg ..) (i8 _ hg') hne f.i (by simp [Bi]);simp only [Bi,aY,c8,or_false,not_or] at ap;have g1:=ne g (i8 _ hg') g.q (by exact fg);have g2:=ne g (i8 _ hg') g.i (by simp [Bi]);exact ⟨k1,bC (bC (bC (bC k2 ap.1) (λq=>g1.1 q.symm)) (λq=>g1.2.2.2 q.symm)) (λq=>g1.2.1 q.symm),bC (bC (bC (bC k3 ap.2) (λq=>g2.1 q.symm)) (λq=>g2.2.2.2 q.symm)) (λq=>g2.2.1 q.symm)⟩
 ·have:=h.nodup;simp only [u0,bu,aY,bz,aG,not_or,bk] at this ⊢;refine iJ this λq'3 q'4 q'5 XX Yy=>?_;obtain ⟨a1,a2,a3,a4⟩:=q'3;obtain ⟨a5,a6,a7⟩:=q'4;obtain ⟨a8,a9⟩:=q'5;exact ⟨⟨a1,a2,a3,a4.2⟩,⟨a5,a6,a7.2⟩,⟨a8,a9.2⟩,XX.2,Yy.2.1⟩
 ·rw [bx,bu] at hnm;exact hnm.2
end
section
variable{I:Ix}{fw:List Sk}
theorem D2{xs:List Str}{k:Str}(h:os[i]? =af (.set xs)):Pg c (.str k) (.ref i) z ⟨fr,os⟩=af (decide (k∈xs),⟨fr,os⟩):=aZ (eL h z fr)
theorem in_dict{k:Str}(h:os[i]? =af (.dict es)):Pg c (.str k) (.ref i) z ⟨fr,os⟩=af ((lookE es k).isSome,⟨fr,os⟩):=aZ (eL h z fr)
section
variable{test:M Bool}{body orelse:M Fl}{s s' s'':eP}
theorem xZ(ht:test z s=af (ao,s'))(hb:body z s'=af (.next,s'')):g9 test body orelse (n+1) z s=g9 test body orelse n z s'':=by
 conv=>lhs;dsimp only [g9]
 rw [aZ ht,if_pos rfl,aZ hb]
theorem HO(ht:test z s=af (ao,s'))(hb:body z s'=af (.brk,s'')):g9 test body orelse (n+1) z s=af (.next,s''):=by
 conv=>lhs;dsimp only [g9]
 rw [aZ ht,if_pos rfl,aZ hb];rfl
theorem Ul(ht:test z s=af (ao,s'))(hb:body z s'=af (.ret v,s'')):g9 test body orelse (n+1) z s=af (.ret v,s''):=by
 conv=>lhs;dsimp only [g9]
 rw [aZ ht,if_pos rfl,aZ hb];rfl
theorem HP(ht:test z s=af (bc,s')){f:Fl}(ho:orelse z s'=af (f,s''))(hf:AA f z s''=af (f,s'')):g9 test body orelse (n+1) z s=af (f,s''):=by
 conv=>lhs;dsimp only [g9]
 rw [aZ ht,if_neg (by simp),aZ ho];exact hf
end
theorem HQ(g:Sk->α):(stkL g fw).isEmpty=fw.isEmpty:=by
 induction fw using aC with
 |nil=>rfl
 |cons f r=>simp [stkL]
theorem Bl(h:Fc b os S I fw seen)(F:HN fr S I):ja (cx P aj cQ ao) z ⟨fr,os⟩=af (!fw.isEmpty,⟨fr,os⟩):=by
 have:=λfr=>Nq (c:=cx P aj cQ ao) (z:=z) (fr:=fr) h.st;(delta ja;with_reducible repeat' (first|apply F.st|apply bq|apply bE|(simp only [Cg,F.st,du,this,HQ];done)))
abbrev K2(P:eR)(aj:List (bj × O))(cQ:zG)(n:Nat):M Fl:=g9 (ja (cx P aj cQ ao)) (fR (cx P aj cQ ao) (cx P aj cQ bc)) (seqM (aA Fl.brk) (aA bo)) n
theorem Bm{Gv:List Sk}:∀{fw:List Sk}{n:Nat}{os:List O},Bk fw=af (y,Gv)->fw.length<=1000->fw.length<=n->Fc b os S I fw seen->HN fr S I->(∀j∈z,j<b)->∃os',K2 P aj cQ n z ⟨fr,os⟩=af (.next,⟨putF fr "node" (.str y),os'⟩)/\Fc b os' S I Gv seen/\Hi b os os'
 | [],n,os,hp,_,_,_,_,_=>by trivial
 |f::r,0,os,hp,_,hn,_,_,_=>by simp at hn
 |f::r,n+1,os,hp,hl,hn,h,F,hz=>by
  have ht:=Bl (P:=P) (aj:=aj) (cQ:=cQ) (z:=z) h F;dsimp only [Bk] at hp;induction hy:f.x.ss[f.k]? using aw with
  |some w=>
   rw [hy] at hp;simp only [gz,Cu] at hp;obtain ⟨e1,e2⟩:=hp;subst e1 e2;refine cT (Nr (P:=P) (aj:=aj) (cQ:=cQ) h F hz hy) λq1 q2 q3=>?_;exact ⟨_,HO ht q1,q2,q3⟩
  |none=>
   rw [hy] at hp;refine cO (FL (P:=P) (aj:=aj) (cQ:=cQ) h F hz hy hl) λc4 q1 q2 q3=>?_;simp only [bb] at hl hn;refine cO (Bm (n:=n) hp (by exact bS hl) (by exact dF hn) q2 F hz) λc7 r1 r2 r3=>?_;exact ⟨c7,(xZ ht q1).trans r1,r2,q3.trans r3⟩
theorem Bo:∀{fw:List Sk}{n:Nat}{os:List O},Bk fw=ae->fw.length<=1000->fw.length<n->Fc b os S I fw seen->HN fr S I->(∀j∈z,j<b)->∃os',K2 P aj cQ n z ⟨fr,os⟩=af (.brk,⟨fr,os'⟩)/\Fc b os' S I [] seen/\Hi b os os'
 |_,0,os,hp,_,hn,_,_,_=>by simp at hn
 | [],n+1,os,hp,hl,hn,h,F,hz=>by
  have ht:=Bl (P:=P) (aj:=aj) (cQ:=cQ) (z:=z) h F;exact ⟨os,HP ht rfl rfl,h,Hi.refl⟩
 |f::r,n+1,os,hp,hl,hn,h,F,hz=>by
  have ht:=Bl (P:=P) (aj:=aj) (cQ:=cQ) (z:=z) h F;dsimp only [Bk] at hp;induction hy:f.x.ss[f.k]? using aw with
  |some w=>rw [hy] at hp;trivial
  |none=>
   rw [hy] at hp;refine cO (FL (P:=P) (aj:=aj) (cQ:=cQ) h F hz hy hl) λc4 q1 q2 q3=>?_;simp only [bb] at hl hn;refine cO (Bo (n:=n) hp (by exact bS hl) (by exact dF hn) q2 F hz) λc7 r1 r2 r3=>?_;exact ⟨c7,(xZ ht q1).trans r1,r2,q3.trans r3⟩
end
theorem CW(l r:List (Str × V))(k:Str):lookE (l++r) k=(lookE l k).or (lookE r k):=by
 induction l with
 |nil=>simp [lookE]
 |cons e l ih=>
  obtain ⟨a,v⟩:=e;show (if a=k then af v else lookE (l++r) k)=Option.or (if a=k then af v else lookE l k) (lookE r k);split
  ·rfl
  ·exact ih
theorem Bp{l:List (Str × V)}{k:Str}:(lookE l k).isSome=ao↔k∈l.map (·.1):=by
 induction l with
 |nil=>exact iK rfl
 |cons e l ih=>
  dsimp only [lookE];split
  ·rename_i q;simp [q]
  ·rename_i q
   simp only [bx,aY,ih];exact ⟨.inr,λh=>h.elim (λe=>absurd e.symm q) id⟩
theorem FN{l:List (Str × V)}{k:Str}(h:k∉l.map (·.1)):jY l k v=l++ [(k,v)]:=by
 dsimp only [jY];rw [if_neg];intro q;rw [iX] at q;refine aR q λe he q=>?_;exact h (aT.mpr ⟨e,he,iK q⟩)
theorem x4(n j:Nat):kI n (j:Int)=min j n:=by
 unfold kI;rw [if_neg (mP.mpr (dY _))];exact (yu j n).elim (λq=>by rw [z2 (jd.mpr q),jy q,sF (dY _)];rfl) λq=>by rw [Int.min_eq_right (jd.mpr q),sG q,sF (dY _)];rfl
theorem pK{a b s:V}{ys:List V}(ho:∀fr,el c o z ⟨fr,os⟩=af (.list xs,⟨fr,os⟩))(hs:uD xs a b s=af ys)(hl:ys.length<=1000000):lJ c o a b s z ⟨fr,os⟩=af (.ref os.length,⟨fr,os++ [.list ys]⟩):=(aZ (ho fr)).trans ((aZ (ff hs z _)).trans (dW (o:=.list ys) (decide_eq_true hl) z fr os))
theorem add_lists{ys:List V}(h1:os[i]? =af (.list xs))(h2:os[j]? =af (.list ys))(hl:xs.length+ys.length<=1000000)(fr:eB):binC c .Add (.ref i) (.ref j) z ⟨fr,os⟩=af (.ref os.length,⟨fr,os++ [.list (xs++ys)]⟩):=
 (aZ (eL h1 z fr)).trans ((aZ (eL h2 z fr)).trans (dW (o:=.list (xs++ys)) (decide_eq_true (by rw [aq];exact hl)) z fr os))
theorem x5{a b:V}{lo hi:Option Int}(ha:Cz a=af lo)(hb:Cz b=af hi):uD xs a b .none=af ((xs.drop (lo.elim 0 (kI xs.length))).take (hi.elim xs.length (kI xs.length)-lo.elim 0 (kI xs.length))):=by
 delta uD;rw [ha,hb];rfl
theorem Ww(xs:List V)(j:Nat):uD xs .none (.int j) .none=af (xs.take j):=by
 refine (x5 rfl rfl).trans ?_;show af ((xs.drop 0).take (kI xs.length (j:Nat)-0))=_;rw [x4,pS,Nat.sub_zero];congr 1;by_cases h:j<=xs.length
 ·rw [jy h]
 ·rw [sG (mV h),mh (ax _),mh (mV h)]
theorem D6(xs:List V)(j:Nat):uD xs (.int j) .none .none=af (xs.drop j):=by
 refine (x5 rfl rfl).trans ?_;show af ((xs.drop (kI xs.length (j:Nat))).take (xs.length-kI xs.length (j:Nat)))=_;rw [x4];congr 1;by_cases h:j<=xs.length
 ·rw [jy h,mh (by simp)]
 ·rw [sG (mV h),fE (ax _),fE (mV h),List.take_nil]
theorem Nt(xs:List V)(h:i<=j)(hj:j<=xs.length):uD xs (.int i) (.int j) .none=af ((xs.drop i).take (j-i)):=by
 refine (x5 rfl rfl).trans ?_;show af ((xs.drop (kI xs.length (i:Nat))).take (kI xs.length (j:Nat)-kI xs.length (i:Nat)))=_;rw [x4,x4,jy hj,jy (ai h hj)]
noncomputable def pL(l:List Str)(y:Str):List Str:=l.dropWhile (λa=>decide (a≠y))++ [y]
theorem R6:∀{l r:List Str},y∈l->(l++r).dropWhile (λa=>decide (a≠y))=l.dropWhile (λa=>decide (a≠y))++r
 |a::l,r,h=>by
  rw [fT,kK,kK];by_cases q:a=y
  ·simp [q]
  ·have:y∈l:=by
    rcases jJ h with e|e
    ·exact absurd e.symm q
    ·exact e
   simp only [ne_eq,q,not_false_eq_true,decide_true,if_true];exact R6 this
theorem Nu:∀{l r:List Str},y∉l->(l++r).dropWhile (λa=>decide (a≠y))=r.dropWhile (λa=>decide (a≠y))
 | [],r,h=>rfl
 |a::l,r,h=>by
  simp only [aY,not_or] at h;rw [fT,kK];have q:a≠y:=λe=>h.1 e.symm;simp only [ne_eq,q,not_false_eq_true,decide_true,if_true];exact Nu h.2
theorem Jq:∀{fw:List Sk},y∈fw.map (·.x.nm)->∃k:Nat,lookE (mL fw) y=af (.int k)/\k<fw.length/\(stkL (λf=>f.x.nm) fw).drop k=(stkL (λf=>f.x.nm) fw).dropWhile (λa=>decide (a≠y))
 | [],h=>by simp at h
 |f::r,h=>by
  by_cases hr:y∈r.map (·.x.nm)
  ·refine cO (Jq hr) λk h1 h2 h3=>?_;refine ⟨k,?_,?_,?_⟩
   ·show lookE (mL r++_) y=_;rw [CW,h1];rfl
   ·simp only [bb];exact iw h2
   ·show (stkL _ r++_).drop k=(stkL _ r++_).dropWhile _;rw [R6 (pJ.mpr hr),i7 (by rw [gM];exact bS h2),h3]
  ·have e:f.x.nm=y:=by
    rw [bx,aY] at h;exact (h.resolve_right hr).symm
   refine ⟨r.length,?_,?_,?_⟩
   ·show lookE (mL r++_) y=_;have:lookE (mL r) y=ae:=by
     induction q:lookE (mL r) y using aw with
     |none=>rfl
     |some v=>
      have:=Bp.mp (show (lookE (mL r) y).isSome=ao by refine q▸ ?_;rfl);rw [rS,pJ] at this;exact absurd this hr
    rw [CW,this];simp [lookE,e]
   ·exact ax _
   ·show (stkL _ r++_).drop _=(stkL _ r++_).dropWhile _;rw [Nu (λq=>hr (pJ.mp q)),i7 (by rw [gM];exact ax _),fE (by rw [gM];exact ax _)];simp [e]
theorem FO(g:Sk->α)(k:α->β):∀fw:List Sk,stkL (λf=>k (g f)) fw=(stkL g fw).map k
 | []=>rfl
 |f::r=>by simp [stkL,FO g k r]
section
variable{I:Ix}{fw:List Sk}
theorem FP(h:Fc b os S I fw seen)(F:HN fr S I)(hy:getF fr "node" =af (.str y))(h1:y∈seen)(h2:y∉fw.map (·.x.nm)){fl:Fl}{s':eP}(hp:K2 P aj cQ 200 z ⟨fr,os⟩=af (fl,s'))(hf:fl= .next∨fl= .brk):dq (cx P aj cQ ao) (cx P aj cQ bc) z ⟨fr,os⟩=af (fl,s'):=by
 have i1:=λfr=>D2 (c:=cx P aj cQ ao) (z:=z) (fr:=fr) (k:=y) h.se;have i2:=λfr=>in_dict (c:=cx P aj cQ ao) (z:=z) (fr:=fr) (k:=y) h.ns;have e:(lookE (mL fw) y).isSome=bc:=by
  induction q:(lookE (mL fw) y).isSome using cF with
  |false=>rfl
  |true=>have:=Bp.mp q;rw [rS,pJ] at this;exact absurd this h2
 rw [e] at i2;simp only [K2,seqM] at hp;rcases hf with rfl|rfl
 ·(delta dq;with_reducible repeat' (first|apply F.se|apply F.ns|apply hy|apply i1|apply i2|exact br|apply bt|apply bq|apply bE|exact aI|apply th|apply aO|(apply ite_no;focus exact bh)|(apply bV;focus exact decide_eq_true h1)|with_unfolding_all apply hp))
 ·(delta dq;with_reducible repeat' (first|apply F.se|apply F.ns|apply hy|apply i1|apply i2|exact br|apply bt|apply bq|apply bE|exact aI|apply th|apply aO|exact Bc|(apply ite_no;focus exact bh)|(apply bV;focus exact decide_eq_true h1)|with_unfolding_all apply hp))
theorem Nv(h:Fc b os S I fw seen)(F:HN fr S I)(hy:getF fr "node" =af (.str y))(h1:y∈seen)(h2:y∈fw.map (·.x.nm))(hl:fw.length<=1000):∃l1 l2,dq (cx P aj cQ ao) (cx P aj cQ bc) z ⟨fr,os⟩=af (.ret (.ref (os.length+2)),⟨fr,os++ [l1]++ [l2]++ [.list ((pL (stkL (λf=>f.x.nm) fw) y).map .str)]⟩):=by
 refine cO (Jq h2) λk k1 k2 k3=>?_;have i1:=λfr=>D2 (c:=cx P aj cQ ao) (z:=z) (fr:=fr) (k:=y) h.se;have i2:=λfr=>in_dict (c:=cx P aj cQ ao) (z:=z) (fr:=fr) (k:=y) h.ns;have i3:=λfr=>yY (c:=cx P aj cQ ao) (z:=z) (fr:=fr) h.ns k1;rw [k1] at i2;have st:=h.st;rw [FO (λf=>f.x.nm) bp] at st;have hL:(stkL (λf=>f.x.nm) fw).length=fw.length:=gM ..;generalize stkL (λf=>f.x.nm) fw=L at*;have sl:=λfr=>pK (c:=cx P aj cQ ao) (z:=z) (fr:=fr) (os:=os) (a:=.int (k:Int)) (b:=.none) (s:=.none) (eL st z) ((D6 _ _).trans (congrArg _ nr.symm)) (by rw [aH,kz];exact qk (ai (BR _ _) (ai (ar hL) hl)) rfl);have al2:=λfr=>dW (o:=.list [bp y]) (by rfl) z fr (os++ [.list ((L.drop k).map bp)]);have b1:=λfr=>add_lists (c:=cx P aj cQ ao) (z:=z) (os:=os++ [.list ((L.drop k).map bp)]++ [.list [bp y]]) (i:=os.length) (xs:=(L.drop k).map bp) (ys:=[bp y]) (by simp) cK (by rw [aH,kz];exact Iu (ai (BR _ _) (ai (ar hL) hl)) rfl) fr;have e:(pL L y).map bp=(L.drop k).map bp++ [bp y]:=by
  dsimp only [pL];rw [←k3,cw];rfl
 have e2:(os++ [cM ((L.drop k).map bp)]++ [cM [bp y]]).length=os.length+2:=by simp
 rw [e,←e2];refine ⟨.list ((L.drop k).map bp),.list [bp y],?_⟩;(delta dq;with_reducible repeat' (first|apply F.se|apply F.ns|apply F.st|apply hy|apply i1|apply i2|apply i3|apply sl|apply al2|apply b1|exact br|apply bt|apply bq|apply bE|exact aI|apply th|(apply bV;focus exact decide_eq_true h1)|(apply bV;focus with_unfolding_all exact rfl)|with_unfolding_all rfl))
end
section
variable{I:Ix}{fw:List Sk}
def Jr(os:List O)(I:Ix)(fw:List Sk)(seen:List Str)(x:Nd):List O:=
 (((os.set I.se (.set (seen++ [x.nm]))++ [mi x.su 0]++ [xj os.length]).set I.uZ (.list (stkL (λf=>ir f.q) fw++ [ir (os.length+1)]))).set I.ns (.dict (mL fw++ [(x.nm,bD fw.length)]))).set I.st (.list (stkL (λf=>bp f.x.nm) fw++ [bp x.nm]))
theorem QA(h:Fc b os S I fw seen){x:Nd}(hx:x∈S.df)(h2:x.nm∉fw.map (·.x.nm))(hb:b<=os.length):Fc b (Jr os I fw seen x) S I (⟨x,0,os.length+1,os.length⟩::fw) (seen++ [x.nm])/\Hi b os (Jr os I fw seen x):=by
 refine iQ h.ne λe1 e2 e3 e4 e5 r'1=>?_;refine dZ r'1 λe6 ne=>?_;have l1:=aX h.st;have l2:=aX h.uZ;have l3:=aX h.se;have l4:=aX h.ns;have hlow:∀j∈u0 I fw,j<os.length:=by
  intro j hj;simp only [u0,aY] at hj;rcases hj with rfl|rfl|rfl|rfl|hj
  ·exact l1
  ·exact l2
  ·exact l3
  ·exact l4
  ·refine aR (cI.mp hj) λf hf hj=>?_;refine cT (h.fr f hf) λ_ k2 k3=>?_;simp only [Bi,aY,c8,or_false] at hj;rcases hj with rfl|rfl
   ·exact aX k2
   ·exact aX k3
 have hh:b<=I.st/\b<=I.uZ/\b<=I.se/\b<=I.ns:=⟨h.high _ (by exact fg),h.high _ (by simp [u0]),h.high _ (by simp [u0]),h.high _ (by simp [u0])⟩;have hL:(os.set I.se (.set (seen++ [x.nm]))).length=os.length:=by exact dI
 have g1:(os.set I.se (.set (seen++ [x.nm]))++ [mi x.su 0]++ [xj os.length])[os.length]? =af (.kO x.su 0):=by
  rw [aQ,bT (by exact ar hL),hL,mf];rfl
 have g2:(os.set I.se (.set (seen++ [x.nm]))++ [mi x.su 0]++ [xj os.length])[os.length+1]? =af (.next os.length):=by
  rw [aQ,bT (by exact iw (ar hL)),hL,dO];rfl
 refine ⟨⟨?_,h.low,?_,?_,?_,?_,?_,?_,?_,?_⟩,?_⟩
 ·exact h.rz hh.1 _ (h.rz hh.2.2.2 _ (h.rz hh.2.1 _ (((h.rz hh.2.2.1 _ h.Nn).grow _).grow _)))
 ·exact dA (bC (bC (bI (bI (bC h.st (λq=>e2 q.symm)))) (λq=>e1 q.symm)) (λq=>e3 q.symm))
 ·exact bC (bC (dA (bI (bI (bC h.uZ (λq=>e4 q.symm))))) (λq=>e5 q.symm)) e1
 ·exact bC (bC (bC (bI (bI (dA h.se))) e4) (λq=>e6 q.symm)) e2
 ·exact bC (dA (bC (bI (bI (bC h.ns e6))) e5)) e3
 ·intro f hf;rcases jJ hf with rfl|hf
  ·refine ⟨hx,?_,?_⟩
   ·exact bC (bC (bC g2 (show I.uZ≠os.length+1 from OX l2)) (show I.ns≠os.length+1 from OX l4)) (show I.st≠os.length+1 from OX l1)
   ·exact bC (bC (bC g1 (show I.uZ≠os.length by exact bP l2)) (show I.ns≠os.length by exact bP l4)) (show I.st≠os.length by exact bP l1)
  ·refine cT (h.fr f hf) λk1 k2 k3=>?_;have n1:=ne f hf f.q (by exact fg);have n2:=ne f hf f.i (by simp [Bi]);exact ⟨k1,bC (bC (bC (bI (bI (bC k2 (λq=>n1.2.2.1 q.symm)))) (λq=>n1.2.1 q.symm)) (λq=>n1.2.2.2 q.symm)) (λq=>n1.1 q.symm),bC (bC (bC (bI (bI (bC k3 (λq=>n2.2.2.1 q.symm)))) (λq=>n2.2.1 q.symm)) (λq=>n2.2.2.2 q.symm)) (λq=>n2.1 q.symm)⟩
 ·have:=h.nodup;have hn:∀j∈fw.flatMap Bi,j<os.length:=λj hj=>hlow j (by simp only [u0,aY];exact .inr (.inr (.inr (.inr hj))));have n1:os.length∉fw.flatMap Bi:=λq=>absurd (hn _ q) (aW _);have n2:os.length+1∉fw.flatMap Bi:=λq=>absurd (hn _ q) (iu);simp only [u0,bu,aY,bz,Bi,fT,ey,not_or] at this ⊢;refine iJ this λq'2 q'3 q'4 XX Yy=>?_;obtain ⟨a1,a2,a3,a4⟩:=q'2;obtain ⟨a5,a6,a7⟩:=q'3;obtain ⟨a8,a9⟩:=q'4;exact ⟨⟨a1,a2,a3,OX l1,bP l1,a4⟩,⟨a5,a6,OX l2,bP l2,a7⟩,⟨a8,OX l3,bP l3,a9⟩,⟨OX l4,by exact bP l4,XX⟩,⟨by exact Nat.succ_ne_self _,n2⟩,n1,Yy⟩
 ·intro j hj;simp only [u0,bz,Bi,aY,fT,ey] at hj;rcases hj with rfl|rfl|rfl|rfl|rfl|rfl|hj
  ·exact hh.1
  ·exact hh.2.1
  ·exact hh.2.2.1
  ·exact hh.2.2.2
  ·show b<=os.length+1;exact iw hb
  ·exact hb
  ·exact h.high j (by simp only [u0,aY];exact .inr (.inr (.inr (.inr hj))))
 ·rw [bx,bu];exact ⟨h2,h.names⟩
 ·exact (((((Hi.set hh.2.2.1 _).trans (Hi.grow (by rw [hL];exact hb) _)).trans (Hi.grow (by simp;exact iw hb) _)).trans (Hi.set hh.2.1 _)).trans (Hi.set hh.2.2.2 _)).trans (Hi.set hh.1 _)
theorem FQ(h:Fc b os S I fw seen)(F:HN fr S I){x:Nd}(hx:x∈S.df)(hy:getF fr "node" =af (.str x.nm))(h1:x.nm∉seen)(h2:x.nm∉fw.map (·.x.nm))(hl:fw.length<=1000)(hs:seen.length<=1000)(hz:∀j∈z,j<b){fl:Fl}{s':eP}(hp:K2 P aj cQ 200 z ⟨fr,Jr os I fw seen x⟩=af (fl,s'))(hf:fl= .next∨fl= .brk):dq (cx P aj cQ ao) (cx P aj cQ bc) z ⟨fr,os⟩=af (fl,s'):=by
 refine iQ h.ne λe1 e2 e3 e4 e5 r'5=>?_;refine dZ r'5 λe6 ne=>?_;have hz':∀j∈u0 I fw,j∉z:=λj hj q=>absurd (hz j q) (cC.mpr (h.high j hj));have hh:b<=I.st/\b<=I.uZ/\b<=I.se/\b<=I.ns:=⟨h.high _ (by exact fg),h.high _ (by simp [u0]),h.high _ (by simp [u0]),h.high _ (by simp [u0])⟩;have i1:=λfr=>D2 (c:=cx P aj cQ ao) (z:=z) (fr:=fr) (k:=x.nm) h.se;have a1:=λfr=>Ub (c:=cx P aj cQ ao) (z:=z) (fr:=fr) h.se Uc;have a2:=λfr=>Wu (c:=cx P aj cQ ao) (z:=z) (fr:=fr) (v:=x.nm) h.se (hz' _ (by simp [u0])) (Iu hs rfl);rw [if_neg h1] at a2;have hL:(os.set I.se (.set (seen++ [x.nm]))).length=os.length:=by exact dI
 have Rz:(os.set I.se (.set (seen++ [x.nm])))[I.uZ]? =_:=bC h.uZ (λq=>e4 q.symm);have a3:=λfr=>k8 (c:=cx P aj cQ ao) (z:=z) (fr:=fr) Rz mK;have s1:=h.rz hh.2.2.1 (.set (seen++ [x.nm])) h.Nn;refine cT (s1.nd x hx) λn1 n2 n3=>?_;have a4:=λfr=>yY (c:=cx P aj cQ ao) (z:=z) (fr:=fr) s1.dict (xY h.Nn.names hx);have a5:=λfr=>vF (P:=P) (aj:=aj) (cQ:=cQ) (hd:=true) (z:=z) (fr:=fr) (v:=.ref x.su) n1 n2 (M0 P).1 rfl rfl;have a6:∀fr,Pj (cx P aj cQ ao) "iter" [.ref x.su] z ⟨fr,os.set I.se (.set (seen++ [x.nm]))⟩=af (.ref os.length,⟨fr,os.set I.se (.set (seen++ [x.nm]))++ [mi x.su 0]⟩):=λfr=>by
  have:=dW (o:=.kO x.su 0) rfl z fr (os.set I.se (.set (seen++ [x.nm])));rw [hL] at this;exact Ug.trans ((aZ (eL n3 z fr)).trans this)
 have a7:=λfr=>Nh (a6 fr);have g1:(os.set I.se (.set (seen++ [x.nm]))++ [mi x.su 0])[os.length]? =af (.kO x.su 0):=by
  rw [bT (by exact ar hL),hL,mf];rfl
 have a8:∀fr,eD (cx P aj cQ ao) (.ref os.length) "__next__" z ⟨fr,os.set I.se (.set (seen++ [x.nm]))++ [mi x.su 0]⟩=af (.ref (os.length+1),⟨fr,os.set I.se (.set (seen++ [x.nm]))++ [mi x.su 0]++ [xj os.length]⟩):=λfr=>by
  have:=dW (o:=.next os.length) rfl z fr (os.set I.se (.set (seen++ [x.nm]))++ [mi x.su 0]);rw [aq,hL] at this;exact (aZ (eL g1 z fr)).trans ((Ba rfl z _).trans this)
 have its2:(os.set I.se (.set (seen++ [x.nm]))++ [mi x.su 0]++ [xj os.length])[I.uZ]? =_:=bI (bI Rz);have a9:=λfr=>pH (c:=cx P aj cQ ao) (z:=z) (fr:=fr) (v:=.ref (os.length+1)) its2 (hz' _ (by simp [u0])) (by rw [gM];exact Iu hl rfl);have st1:((os.set I.se (.set (seen++ [x.nm]))++ [mi x.su 0]++ [xj os.length]).set I.uZ (.list (stkL (λf=>ir f.q) fw++ [ir (os.length+1)])))[I.st]? =_:=bC (bI (bI (bC h.st (λq=>e2 q.symm)))) (λq=>e1 q.symm);have b1:=λfr=>Jl (P:=P) (aj:=aj) (cQ:=cQ) (z:=z) (fr:=fr) (.inl st1);rw [gM] at b1;have ZY:((os.set I.se (.set (seen++ [x.nm]))++ [mi x.su 0]++ [xj os.length]).set I.uZ (.list (stkL (λf=>ir f.q) fw++ [ir (os.length+1)])))[I.ns]? =_:=bC (bI (bI (bC h.ns e6))) e5;have ep:jY (mL fw) x.nm (.int fw.length)=mL fw++ [(x.nm,bD fw.length)]:=FN (by rw [rS,pJ];exact h2);have b2:=λfr=>xX (c:=cx P aj cQ ao) (z:=z) (fr:=fr) (k:=x.nm) (v:=.int fw.length) ZY (hz' _ (by simp [u0])) (by refine ep▸ ?_;simp [u3];exact bR hl);rw [ep] at b2;have st2:(((os.set I.se (.set (seen++ [x.nm]))++ [mi x.su 0]++ [xj os.length]).set I.uZ (.list (stkL (λf=>ir f.q) fw++ [ir (os.length+1)]))).set I.ns (.dict (mL fw++ [(x.nm,bD fw.length)])))[I.st]? =_:=bC st1 (λq=>e3 q.symm);have b3:=λfr=>k8 (c:=cx P aj cQ ao) (z:=z) (fr:=fr) st2 mK;have b4:=λfr=>pH (c:=cx P aj cQ ao) (z:=z) (fr:=fr) (v:=.str x.nm) st2 (hz' _ (by exact fg)) (by rw [gM];exact Iu hl rfl);simp only [K2,seqM,Jr] at hp;rcases hf with rfl|rfl
 ·(delta dq;with_reducible repeat' (first|apply F.se|apply F.ns|apply F.uZ|apply F.st|apply F.hJ|apply hy|apply i1|apply a1|apply a2|apply a3|apply a4|apply a5|apply a7|apply a8|apply a9|apply b1|apply b2|apply b3|apply b4|exact dR _ _ _|exact br|apply bt|apply bq|apply bE|exact aI|apply th|apply aO|(apply b7;apply bX)|(apply ite_no;focus exact nt (decide_eq_false h1))|with_unfolding_all apply hp))
 ·(delta dq;with_reducible repeat' (first|apply F.se|apply F.ns|apply F.uZ|apply F.st|apply F.hJ|apply hy|apply i1|apply a1|apply a2|apply a3|apply a4|apply a5|apply a7|apply a8|apply a9|apply b1|apply b2|apply b3|apply b4|exact dR _ _ _|exact br|apply bt|apply bq|apply bE|exact aI|apply th|apply aO|exact Bc|(apply b7;apply bX)|(apply ite_no;focus exact nt (decide_eq_false h1))|with_unfolding_all apply hp))
end
theorem jt:∀{l m:List Str},l.Nodup->(∀a∈l,a∈m)->l.length<=m.length
 | [],m,_,_=>fm _
 |a::l,m,h,hs=>by
  rw [bu] at h;have ha:=hs a (fg ..);have:=jt (l:=l) (m:=m.erase a) h.2 λc hc=>(List.mem_erase_of_ne (show c≠a from λq=>h.1 (q▸hc))).mpr (hs c (i8 _ hc));rw [List.length_erase_of_mem ha] at this;have hp:=List.length_pos_of_mem ha;simp only [bb];exact Nat.add_le_of_le_sub hp this
abbrev PS:=List (Str × List Str)
noncomputable def D7:PS->Option (Str × PS)
 | []=>ae
 |(_,[])::r=>D7 r
 |(x,y::ys)::r=>af (y,(x,ys)::r)
noncomputable def ab(f:Sk):Str × List Str:=(f.x.nm,f.x.ss.drop f.k)
theorem HR:∀fw:List Sk,D7 (fw.map ab)=(Bk fw).map λp=>(p.1,p.2.map ab)
 | []=>rfl
 |f::r=>by
  dsimp only [Bk];induction h:f.x.ss[f.k]? using aw with
  |none=>
   have e:f.x.ss.drop f.k= []:=fE (qo.mp h);show D7 ((f.x.nm,f.x.ss.drop f.k)::r.map ab)=_;refine e▸ ?_;exact HR r
  |some y=>
   obtain ⟨hl,hy⟩:=cP.mp h;have e:f.x.ss.drop f.k=y::f.x.ss.drop (f.k+1):=by rw [fM hl,hy]
   show D7 ((f.x.nm,f.x.ss.drop f.k)::r.map ab)=_;refine e▸ ?_;rfl
noncomputable def wW(g:Str->List Str):Nat->Str->PS->List Str->Option (List Str ⊕ List Str)
 |0,_,_,_=>ae
 |n+1,y,st,seen=>
  if y∈seen then
   if y∈st.map (·.1) then af (.inl (pL (st.map (·.1)).reverse y))
   else match D7 st with
    |none=>af (.inr seen)
    |some (y',st')=>wW g n y' st' seen
  else match D7 ((y,g y)::st) with
   |none=>af (.inr (seen++ [y]))
   |some (y',st')=>wW g n y' st' (seen++ [y])
theorem FR(g:Sk->α):∀fw:List Sk,stkL g fw=(fw.map g).reverse
 | []=>rfl
 |f::r=>by simp [stkL,FR g r]
theorem D8:∀{fw Gv:List Sk}{y:Str},Bk fw=af (y,Gv)->(∀a∈Gv.map (·.x.nm),a∈fw.map (·.x.nm))/\∃f∈fw,y∈f.x.ss
 |f::r,Gv,y,h=>by
  dsimp only [Bk] at h;induction q:f.x.ss[f.k]? using aw with
  |none=>
   rw [q] at h;refine dZ (D8 (fw:=r) h) λh1 r'1=>?_;refine aR r'1 λf' hf hy=>?_;exact ⟨λa ha=>i8 _ (h1 a ha),f',i8 _ hf,hy⟩
  |some w=>
   rw [q] at h;simp only [gz,Cu] at h;obtain ⟨rfl,rfl⟩:=h;exact ⟨λa ha=>ha,f,fg ..,bN q⟩
structure Cl(S:Sr)(g:Str->List Str):Prop where
 ss:∀x∈S.df,g x.nm=x.ss
 cl:∀x∈S.df,∀y∈x.ss,y∈S.df.map (·.nm)
 len:S.df.length<=190
section
variable{I:Ix}
structure Sn(S:Sr)(seen:List Str):Prop where
 nodup:seen.Nodup
 sub:∀a∈seen,a∈S.df.map (·.nm)
theorem Sn.le(h:Sn S seen)(c:Cl S g):seen.length<=190:=by
 have:=jt h.nodup h.sub;rw [aH] at this;exact ai this c.len
theorem Sn.add(h:Sn S seen)(hy:y∈S.df.map (·.nm))(hn:y∉seen):Sn S (seen++ [y]):=by
 refine ⟨?_,λa ha=>?_⟩
 ·refine (bk).mpr ?_;refine ⟨h.nodup,by exact iK rfl,λa ha c hc=>?_⟩;rw [aL] at hc;intro q;exact hn (hc▸q▸ha)
 ·rcases aG.mp ha with ha|ha
  ·exact h.sub a ha
  ·rw [aL] at ha;exact ha▸hy
def Dn(P:eR)(aj:List (bj × O))(cQ:zG)(z:List Nat)(S:Sr)(I:Ix)(b m:Nat)(fr:eB)(os:List O):List Str ⊕ List Str->Prop
 | .inl ring=>∃ej os' i,g9 (i9 (cx P aj cQ ao)) (dq (cx P aj cQ ao) (cx P aj cQ bc)) (aA bo) m z ⟨fr,os⟩=af (.ret (.ref i),⟨ej,os'⟩)/\os'[i]? =af (.list (ring.map .str))/\Hi b os os'/\b<=i
 | .inr seen=>∃ej os',g9 (i9 (cx P aj cQ ao)) (dq (cx P aj cQ ao) (cx P aj cQ bc)) (aA bo) m z ⟨fr,os⟩=af (.next,⟨ej,os'⟩)/\Fc b os' S I [] seen/\HN ej S I/\Hi b os os'/\Sn S seen
theorem Dn.next{m:Nat}{r:List Str ⊕ List Str}(h:dq (cx P aj cQ ao) (cx P aj cQ bc) z ⟨fr,os⟩=af (.next,⟨ej,os'⟩))(hi:Hi b os os')(d:Dn P aj cQ z S I b m ej os' r):Dn P aj cQ z S I b (m+1) fr os r:=by
 have e:=xZ (orelse:=aA bo) (n:=m) (test:=i9 (cx P aj cQ ao)) (z:=z) (s:=⟨fr,os⟩) rfl h;induction r using Sum.casesOn with
 |inl ring=>
  refine b8 d λkM c7 i h1 h2 h3 h4=>?_;exact ⟨kM,c7,i,e.trans h1,h2,hi.trans h3,h4⟩
 |inr seen=>
  refine dD d λkM c7 h1 h2 h3 h4 h5=>?_;exact ⟨kM,c7,e.trans h1,h2,h3,hi.trans h4,h5⟩
theorem visit(cl:Cl S g)(hz:∀j∈z,j<b){r:List Str ⊕ List Str}:∀{n m:Nat}{y:Str}{fw:List Sk}{seen:List Str}{fr:eB}{os:List O},wW g n y (fw.map ab) seen=af r->n<=m->Fc b os S I fw seen->HN fr S I->b<=os.length->getF fr "node" =af (.str y)->y∈S.df.map (·.nm)->(∀a∈fw.map (·.x.nm),a∈seen)->Sn S seen->Dn P aj cQ z S I b m fr os r:=by
 intro n;induction n with
 |zero=>intro m y fw seen fr os hd;exact nn hd
 |succ n ih=>
  intro m y fw seen fr os hd hm h F hb hy Vu hst hs;induction m using lE with
  |zero=>exact (gD _ hm).elim
  |succ m=>
   have e1:(fw.map ab).map (·.1)=fw.map (·.x.nm):=by refine (dk).trans ?_;rfl
   have hsl:=hs.le cl;have BI:fw.length<=190:=by
    have:=jt h.names (m:=S.df.map (·.nm)) λa ha=>hs.sub a (hst a ha);rw [aH,aH] at this;exact ai this cl.len
   dsimp only [wW] at hd;rw [e1] at hd;by_cases h1:y∈seen
   ·rw [if_pos h1] at hd;by_cases h2:y∈fw.map (·.x.nm)
    ·rw [if_pos h2] at hd;simp only [gz] at hd;subst hd;refine An (Nv (P:=P) (aj:=aj) (cQ:=cQ) (z:=z) h F hy h1 h2 (by exact bR BI)) λl1 l2 q=>?_;rw [FR] at q;refine ⟨fr,_,os.length+2,Ul rfl q,?_,?_,by exact jg hb⟩
     ·refine (bT (by simp)).trans ?_;simp
     ·exact ((Hi.grow hb _).trans (Hi.grow (by simp;exact iw hb) _)).trans (Hi.grow (by simp;exact jg hb) _)
    ·rw [if_neg h2,HR] at hd;induction hp:Bk fw using aw with
     |none=>
      rw [hp] at hd;simp only [eA,gz] at hd;subst hd;refine cO (Bo (P:=P) (aj:=aj) (cQ:=cQ) (n:=200) hp (by exact bR BI) (Iu BI rfl) h F hz) λos' q1 q2 q3=>?_;exact ⟨fr,os',HO rfl (FP h F hy h1 h2 q1 (.inr rfl)),q2,F,q3,hs⟩
     |some p=>
      obtain ⟨y',Gv⟩:=p;rw [hp] at hd;refine cO (Bm (P:=P) (aj:=aj) (cQ:=cQ) (n:=200) hp (by exact bR BI) (by exact bR BI) h F hz) λos' q1 q2 q3=>?_;refine dZ (D8 hp) λp1 r'2=>?_;refine aR r'2 λf hf p2=>?_;exact Dn.next (FP h F hy h1 h2 q1 (.inl rfl)) q3 (ih hd (by exact dF hm) q2 (F.put _) (ai hb q3.len) (by rw [b9,if_pos rfl]) (cl.cl f.x (h.fr f hf).1 _ p2) (λa ha=>hst a (p1 a ha)) hs)
   ·rw [if_neg h1] at hd;refine aR (aT.mp Vu) λx hx q'3=>?_;obtain rfl:=q'3;have h2:x.nm∉fw.map (·.x.nm):=λq=>h1 (hst _ q);obtain ⟨hF,hH⟩:=QA h hx h2 hb;have e2:(x.nm,g x.nm)::fw.map ab=((⟨x,0,os.length+1,os.length⟩:Sk)::fw).map ab:=by
     refine (cl.ss x hx)▸ ?_;rfl
    rw [e2,HR] at hd;have hs':=hs.add Vu h1;induction hp:Bk ((⟨x,0,os.length+1,os.length⟩:Sk)::fw) using aw with
    |none=>
     rw [hp] at hd;simp only [eA,gz] at hd;subst hd;refine cO (Bo (P:=P) (aj:=aj) (cQ:=cQ) (n:=200) hp (by simp;exact bR BI) (by simp;exact qk (cg BI 2) rfl) hF F hz) λos' q1 q2 q3=>?_;exact ⟨fr,os',HO rfl (FQ h F hx hy h1 h2 (by exact bR BI) (by exact bR hsl) hz q1 (.inr rfl)),q2,F,hH.trans q3,hs'⟩
    |some p=>
     obtain ⟨y',Gv⟩:=p;rw [hp] at hd;refine cO (Bm (P:=P) (aj:=aj) (cQ:=cQ) (n:=200) hp (by simp;exact bR BI) (by simp;exact bR BI) hF F hz) λos' q1 q2 q3=>?_;refine dZ (D8 hp) λp1 r'4=>?_;refine aR r'4 λf hf p2=>?_;have h3:=hH.trans q3;refine Dn.next (FQ h F hx hy h1 h2 (by exact bR BI) (by exact bR hsl) hz q1 (.inl rfl)) h3 (ih hd (by exact dF hm) q2 (F.put _) (ai hb h3.len) (by rw [b9,if_pos rfl]) (cl.cl f.x (hF.fr f hf).1 _ p2) (λa ha=>?_) hs');have:=p1 a ha;rw [bx,aY] at this;rcases this with q|q
     ·rw [q];exact cH _ fg
     ·exact cf _ (hst a q)
end
noncomputable def findP(g:Str->List Str)(n:Nat):List Str->List Str->Option (Option (List Str))
 | [],_=>af ae
 |y::r,seen=>if y∈seen then findP g n r seen else match wW g n y [] seen with
  |none=>ae
  |some (.inl ring)=>af (af ring)
  |some (.inr seen')=>findP g n r seen'
section
variable{I:Ix}
def Fd(P:eR)(aj:List (bj × O))(cQ:zG)(z:List Nat)(b:Nat)(ys:List V)(fr:eB)(os:List O):Option (List Str)->Prop
 |some ring=>∃ej os' i,fQ (λv=>cY (cx P aj cQ ao) (cx P aj cQ bc) v) ys z ⟨fr,os⟩=af (.ret (.ref i),⟨ej,os'⟩)/\os'[i]? =af (.list (ring.map .str))/\Hi b os os'/\b<=i
 |none=>∃ej os',fQ (λv=>cY (cx P aj cQ ao) (cx P aj cQ bc) v) ys z ⟨fr,os⟩=af (.next,⟨ej,os'⟩)/\Hi b os os'
theorem seek(cl:Cl S g)(hz:∀j∈z,j<b)(hn:n<=200){r:Option (List Str)}:∀{ys seen:List Str}{fr:eB}{os:List O},findP g n ys seen=af r->Fc b os S I [] seen->HN fr S I->b<=os.length->(∀y∈ys,y∈S.df.map (·.nm))->Sn S seen->Fd P aj cQ z b (ys.map .str) fr os r:=by
 intro Ij;induction Ij with
 |nil=>
  intro seen fr os hd h F hb hys hs;simp only [findP,gz] at hd;subst hd;exact ⟨fr,os,rfl,Hi.refl⟩
 |cons y ys ih'=>
  intro seen fr os hd h F hb hys hs;have i1:=λfr=>D2 (c:=cx P aj cQ ao) (z:=z) (fr:=fr) (k:=y) h.se;have F':=F.put (.str y);have hy:getF (putF fr "node" (.str y)) "node" =af (.str y):=by rw [b9,if_pos rfl]
  dsimp only [findP] at hd;by_cases h1:y∈seen
  ·rw [if_pos h1] at hd;have e:cY (cx P aj cQ ao) (cx P aj cQ bc) (.str y) z ⟨fr,os⟩=af (.cont,⟨putF fr "node" (.str y),os⟩):=by
    (delta cY;with_reducible repeat' (first|apply F.se|apply i1|exact br|apply bt|apply bq|apply bE|apply bO|exact aE|apply av (by decide)|exact aI|apply th|exact KP|rfl|(apply bV;focus (simp only [mpure,Cg,FE,dR,zI,b9,dz,gE,if_true,if_false,reduceIte,du,eA,dw,iG,gZ,reduceCtorEq,cmpC,isV,cV,F.se,i1,h1,decide_true];done))))
   have:=ih' hd h F' hb (λa ha=>hys a (i8 _ ha)) hs;have e2:=Nk (turn:=λv=>cY (cx P aj cQ ao) (cx P aj cQ bc) v) (r:=ys.map bp) e;induction r using aw with
   |none=>
    refine gc this λkM c7 q1 q2=>?_;exact ⟨kM,c7,e2.trans q1,q2⟩
   |some ring=>
    refine gb this λkM c7 i q1 q2=>?_;exact ⟨kM,c7,i,e2.trans q1,q2⟩
  ·rw [if_neg h1] at hd;induction hq:wW g n y [] seen using aw with
   |none=>rw [hq] at hd;trivial
   |some d=>
    rw [hq] at hd;have hv:=visit (P:=P) (aj:=aj) (cQ:=cQ) (I:=I) cl hz (n:=n) (m:=200) (fw:=[]) hq hn h F' hb hy (hys y (fg ..)) (λa ha=>by exact cf _ (by assumption)) hs;induction d using Sum.casesOn with
    |inl ring=>
     simp only [gz] at hd;subst hd;refine b8 hv λkM c7 i q1 q2 q3 q4=>?_;have e:cY (cx P aj cQ ao) (cx P aj cQ bc) (.str y) z ⟨fr,os⟩=af (.ret (.ref i),⟨kM,c7⟩):=by
      (delta cY;with_reducible repeat' (first|apply F.se|apply i1|apply q1|exact br|apply bt|apply bq|apply bE|apply bO|exact aE|apply av (by decide)|exact aI|apply th|apply aO|exact bA|rfl|(apply ite_no;focus exact nt (decide_eq_false h1))))
     exact ⟨kM,c7,i,Jo (turn:=λv=>cY (cx P aj cQ ao) (cx P aj cQ bc) v) e,q2,q3,q4⟩
    |inr seen'=>
     refine dD hv λkM c7 q1 q2 q3 q4 q5=>?_;have e:cY (cx P aj cQ ao) (cx P aj cQ bc) (.str y) z ⟨fr,os⟩=af (.next,⟨kM,c7⟩):=by
      (delta cY;with_reducible repeat' (first|apply F.se|apply i1|apply q1|exact br|apply bt|apply bq|apply bE|apply bO|exact aE|apply av (by decide)|exact aI|apply th|apply aO|rfl|(apply ite_no;focus exact nt (decide_eq_false h1))))
     have e2:=ig (turn:=λv=>cY (cx P aj cQ ao) (cx P aj cQ bc) v) (r:=ys.map bp) e;have:=ih' hd q2 q3 (ai hb q4.len) (λa ha=>hys a (i8 _ ha)) q5;induction r using aw with
     |none=>
      refine gc this λLp iI r1 r2=>?_;exact ⟨Lp,iI,e2.trans r1,q4.trans r2⟩
     |some ring=>
      refine b8 this λLp iI i r1 r2 r3 r4=>?_;exact ⟨Lp,iI,i,e2.trans r1,r2,q4.trans r3,r4⟩
def Y5(os os':List O)(v:V):Option (List Str)->Prop
 |some ring=>∃i,v= .ref i/\os'[i]? =af (.list (ring.map .str))/\os.length<=i
 |none=>v= .none
theorem FT(h:gp os S)(cl:Cl S g)(hz:∀j∈z,j<os.length){m:Nat}(hn:n<=200){r:Option (List Str)}(hr:findP g n (S.df.map (·.nm)) []=af r):∃os' v,cN P aj (m+1) (.top 127) [.ref S.i] os z=af (.ret v,os')/\Hi os.length os os'/\Y5 os os' v r:=by
 rw [xQ];have a0:=λfr=>(h.attr (P:=P) (aj:=aj) (cQ:=cN P aj m) fr z ao).1;have l1:=λfr=>dW (o:=.list []) (by decide) z fr os;have l2:=λfr=>dW (o:=.list []) (by decide) z fr (os++ [.list []]);have l3:∀fr,dN (cy P aj m) (.type "set") [] z ⟨fr,os++ [.list []]++ [.list []]⟩=af (.ret (.ref (os++ [cM []]++ [cM []]).length),⟨fr,os++ [.list []]++ [.list []]++ [.set []]⟩):=λfr=>Ni (by
  have:=dW (o:=.set []) (by decide) z fr (os++ [.list []]++ [.list []]);assumption)
 have l4:=λfr=>dW (o:=.dict []) (by decide) z fr (os++ [.list []]++ [.list []]++ [.set []]);have h':gp (os++ [.list []]++ [.list []]++ [.set []]++ [.dict []]) S:=(((h.grow _).grow _).grow _).grow _;have a1:=λfr=>Nm (P:=P) (aj:=aj) (cQ:=cN P aj m) (z:=z) (fr:=fr) h'.dict;have ek:(S.df.map λx=>(x.nm,ir x.info)).map (λe=>bp e.1)=(S.df.map (·.nm)).map bp:=by simp
 rw [ek] at a1;have hF:HN [(ah "self",.ref S.i),(ah "n2i",.ref S.hJ),(ah "stack",.ref os.length),(ah "itstack",.ref (os++ [cM []]).length),(ah "seen",.ref (os++ [cM []]++ [cM []]).length),(ah "node2stacki",.ref (os++ [cM []]++ [cM []]++ [O.set []]).length)] S ⟨os.length,(os++ [cM []]).length,(os++ [cM []]++ [cM []]).length,(os++ [cM []]++ [cM []]++ [O.set []]).length⟩:=by
  refine ⟨?_,?_,?_,?_,?_⟩<;>rfl
 have hC:Fc os.length (os++ [.list []]++ [.list []]++ [.set []]++ [.dict []]) S ⟨os.length,(os++ [cM []]).length,(os++ [cM []]++ [cM []]).length,(os++ [cM []]++ [cM []]++ [O.set []]).length⟩ [] []:=by
  refine ⟨h',h.lt,?_,?_,?_,?_,λf hf=>by simp at hf,?_,?_,dy⟩
  ·simp [stkL]
  ·simp [stkL]
  ·simp
  ·simp [mL]
  ·simp [u0]
  ·intro j hj;simp only [u0,ky,aY,c8,or_false] at hj;rcases hj with rfl|rfl|rfl|rfl<;>simp
 have hz1:∀j∈S.hJ::z,j<os.length:=λj hj=>by
  rcases jJ hj with rfl|hj
  ·exact h.lt _ (by simp [idx])
  ·exact hz j hj
 have hH:Hi os.length os (os++ [.list []]++ [.list []]++ [.set []]++ [.dict []]):=by
  refine (((Hi.grow ?_ _).trans (Hi.grow ?_ _)).trans (Hi.grow ?_ _)).trans (Hi.grow ?_ _)<;>simp<;>omega
 have hs:=seek (P:=P) (aj:=aj) (cQ:=cN P aj m) cl hz1 hn hr hC hF (by simp) (λy hy=>hy) ⟨dy,λa ha=>by exact cf _ (by assumption)⟩;induction r using aw with
 |none=>
  refine gc hs λkM c7 q1 q2=>?_;refine ⟨c7,.none,?_,hH.trans q2,rfl⟩;have OD:dh (af S.hJ) (fQ (λv=>cY (cy P aj m) (cx P aj (cN P aj m) bc) v) ((S.df.map (·.nm)).map bp)) z _=_:=q1;have:iS (cy P aj m) (cx P aj (cN P aj m) bc) z ⟨[("self",.ref S.i)],os⟩=af (.ret .none,⟨kM,c7⟩):=by
   (delta iS;with_reducible repeat' (first|apply a0|apply l1|apply l2|apply l3|apply l4|apply a1|apply OD|exact dR _ _ _|exact br|apply bt|apply bq|apply bE|apply bO|exact ba|apply bg (by decide)|exact eZ|apply fL (by decide)|apply aO|exact bA))
  refine this▸ ?_;rfl
 |some ring=>
  refine b8 hs λkM c7 i q1 q2 q3 q4=>?_;refine ⟨c7,.ref i,?_,hH.trans q3,i,rfl,q2,q4⟩;have OD:dh (af S.hJ) (fQ (λv=>cY (cy P aj m) (cx P aj (cN P aj m) bc) v) ((S.df.map (·.nm)).map bp)) z _=_:=q1;have:iS (cy P aj m) (cx P aj (cN P aj m) bc) z ⟨[("self",.ref S.i)],os⟩=af (.ret (.ref i),⟨kM,c7⟩):=by
   (delta iS;with_reducible repeat' (first|apply a0|apply l1|apply l2|apply l3|apply l4|apply a1|apply OD|exact dR _ _ _|exact br|apply bt|apply bq|apply bE|apply bO|exact ba|apply bg (by decide)|exact eZ|apply fL (by decide)|apply aO|exact bA))
  refine this▸ ?_;rfl
end
structure Zw(z:List Nat)(S:Sr):Prop where
 nd:∀x∈S.df,x.info∉z
 rd:∀r∈Ci S.rd,r∉z
 d:S.d∉z
def kH(nm:Str)(v:Int)(l:List NV):List NV:=rx nm (λe=>(e.1,v,e.2.2)) l
noncomputable def kL(l:List NV)(nm:Str):Int:=((l.find? λe=>e.1=nm).map (·.2.1)).getD 0
noncomputable def x6(l:List NV)(nm:Str):List Str:=((l.find? λe=>e.1=nm).map (·.2.2)).getD []
theorem Js{l:List Nd}(hn:(l.map (·.nm)).Nodup){x:Nd}(hx:x∈l)(e:x.nm=nm):(l.map nv).find? (λe=>e.1=nm)=af (nv x):=by
 induction l with
 |nil=>exact absurd hx aU
 |cons a l ih=>
  rw [bx,bu] at hn;rw [bx,jx];by_cases q:a.nm=nm
  ·have:decide ((nv a).1=nm)=ao:=decide_eq_true q;refine this▸ ?_;rcases jJ hx with rfl|hx
   ·rfl
   ·exact absurd (aT.mpr ⟨x,hx,e.trans q.symm⟩) hn.1
  ·have:decide ((nv a).1=nm)=bc:=decide_eq_false q;refine this▸ ?_;rcases jJ hx with rfl|hx
   ·exact absurd e q
   ·exact ih hn.2 hx
theorem Nw{l:List Nd}(hn:(l.map (·.nm)).Nodup){x:Nd}(hx:x∈l):kL (l.map nv) x.nm=x.np:=by
 unfold kL;refine (Js hn hx rfl)▸ ?_;rfl
theorem Nx{l:List Nd}(hn:(l.map (·.nm)).Nodup){x:Nd}(hx:x∈l):x6 (l.map nv) x.nm=x.ss:=by
 unfold x6;refine (Js hn hx rfl)▸ ?_;rfl
theorem Bh.zw(hz:Bh z os S):Zw z S:=⟨λx hx q=>(hz _ q).2 (xW hx (by exact fg)),λr hr q=>(hz _ q).2 (by unfold idx;simp [hr]),λq=>(hz _ q).2 (by simp [idx])⟩
theorem eq_int{a b:Int}(os:List O):EJ os (.int a) (.int b)=af (decide (a=b)):=by
 refine Eq.trans (b:=if (BS a).canLay0=ao/\(BS b).canLay0=ao/\(BS a).depth<=20 then af (mQ (.int a) (.int b)) else ae) rfl ?_;refine (if_pos ⟨rfl,rfl,ak rfl⟩).trans ?_;congr 1
theorem HS(h:gp os S)(hz:Zw z S){x:Nd}(hx:x∈S.df)(v:Int):d8 (cx P aj cQ hd) (.ref x.info) "npredecessors" (.int v) z ⟨fr,os⟩=af ((),⟨fr,os.set x.info (EB {x with np:=v})⟩):=by
 refine cT (h.nd x hx) λn1 n2 n3=>?_;exact wU (v:=.int v) n1 n2 (FF P).1 (FF P).2 (by exact iK rfl) (by decide) (hz.nd x hx)
theorem D9(h:gp os S){x:Nd}(hx:x∈S.df):eD (cx P aj cQ hd) (.ref x.info) "npredecessors" z ⟨fr,os⟩=af (.int x.np,⟨fr,os⟩):=by
 refine cT (h.nd x hx) λn1 n2 n3=>?_;exact vF (v:=.int x.np) n1 n2 (FF P).1 rfl rfl
theorem Um(h:gp os S){x:Nd}(hx:x∈S.df):eD (cx P aj cQ hd) (.ref x.info) "successors" z ⟨fr,os⟩=af (.ref x.su,⟨fr,os⟩):=by
 refine cT (h.nd x hx) λn1 n2 n3=>?_;exact vF (v:=.ref x.su) n1 n2 (M0 P).1 rfl rfl
theorem Un(h:gp os S){x:Nd}(hx:x∈S.df):eD (cx P aj cQ hd) (.ref x.info) "node" z ⟨fr,os⟩=af (.str x.nm,⟨fr,os⟩):=by
 refine cT (h.nd x hx) λn1 n2 n3=>?_;exact vF (v:=.str x.nm) n1 n2 (T9 P).1 rfl rfl
theorem Ny(h:gp os S){x:Nd}(hx:x∈S.df):d0 (cx P aj cQ hd) (.ref S.hJ) (.str x.nm) z ⟨fr,os⟩=af (.ref x.info,⟨fr,os⟩):=yY h.dict (xY h.names hx)
theorem Wx(h:gp os S)(hz:Zw z S)(v:Int):d8 (cx P aj cQ hd) (.ref S.i) "_npassedout" (.int v) z ⟨fr,os⟩=af ((),⟨fr,os.set S.d (.ns (uY S.hJ (rdV S.rd) v S.fi))⟩):=by
 have:=tg (P:=P) (aj:=aj) (cQ:=cQ) (hd:=hd) (fr:=fr) (v:=.int v) (a:=ah "_npassedout") h.inst h.ns (by exact iK rfl) hz.d (by rw [Jh];exact iK rfl);rw [Jh] at this;exact this
theorem Wy(h:gp os S)(hz:Zw z S)(v:Int):d8 (cx P aj cQ hd) (.ref S.i) "_nfinished" (.int v) z ⟨fr,os⟩=af ((),⟨fr,os.set S.d (.ns (uY S.hJ (rdV S.rd) S.po v))⟩):=by
 have:=tg (P:=P) (aj:=aj) (cQ:=cQ) (hd:=hd) (fr:=fr) (v:=.int v) (a:=ah "_nfinished") h.inst h.ns (by exact iK rfl) hz.d (by rw [Ji];exact iK rfl);rw [Ji] at this;exact this
theorem Wz(h:gp os S)(hz:Zw z S)(v:V):d8 (cx P aj cQ hd) (.ref S.i) "_ready_nodes" v z ⟨fr,os⟩=af ((),⟨fr,os.set S.d (.ns (uY S.hJ v S.po S.fi))⟩):=by
 have:=tg (P:=P) (aj:=aj) (cQ:=cQ) (hd:=hd) (fr:=fr) (v:=v) (a:=ah "_ready_nodes") h.inst h.ns (by exact iK rfl) hz.d (by rw [Jj];exact iK rfl);rw [Jj] at this;exact this
theorem HT(h:gp os S)(hr:S.rd=af (r,l)):cN P aj (n+1) (.top 106) [.ref S.i] os z=af (.ret (.bool (decide (S.fi<S.po)|| !l.isEmpty)),os):=by
 rw [zV];have a:=λfr=>h.attr (P:=P) (aj:=aj) (cQ:=cN P aj n) fr z ao;rw [hr] at a;have a1:=λfr=>(a fr).2.1;have a2:=λfr=>(a fr).2.2.1;have a3:=λfr=>(a fr).2.2.2;have o1:=h.rd r l hr;have a4:∀fr,dN (cy P aj n) (.type "bool") [.ref r] z ⟨fr,os⟩=af (.ret (.bool (!l.isEmpty)),⟨fr,os⟩):=λfr=>Ni (by
  refine Uh.trans ((aZ (eL o1 z fr)).trans ?_);show af (BQ (!(l.map bp).isEmpty),_)=_;rw [zp])
 have:lN (cy P aj n) z ⟨[("self",.ref S.i)],os⟩=af (.ret (.bool (decide (S.fi<S.po)|| !l.isEmpty)),⟨[("self",.ref S.i)],os⟩):=by
  by_cases hp:S.fi<S.po
  ·(delta lN;with_reducible repeat' (first|apply a1|apply a2|apply a3|exact br|apply bt|apply bq|apply bE|exact ba|exact aI|exact DW|apply aO|(apply pG;focus with_unfolding_all exact rfl)|(apply ite_no;focus exact bh)|(apply bV;focus exact decide_eq_true hp)|(apply CU<;>first|rfl|(simp only [mpure,Cg,FE,dR,zI,getF,putF,dz,gE,if_true,if_false,reduceIte,du,eA,dw,iG,gZ,reduceCtorEq,cmpC,isV,cV,a1,a2,a3,a4,rdV,hp,decide_true,Bool.true_or];done))))
  ·(delta lN;with_reducible repeat' (first|apply a1|apply a2|apply a3|exact dR _ _ _|exact br|apply bt|apply bq|apply bE|exact ba|exact aI|exact DW|apply aO|(apply pG;focus with_unfolding_all exact rfl)|(apply ite_no;focus exact bh)|(apply ite_no;focus exact nt (decide_eq_false hp))|with_unfolding_all apply a4|(apply CU<;>first|rfl|(simp only [mpure,Cg,FE,dR,zI,getF,putF,dz,gE,if_true,if_false,reduceIte,du,eA,dw,iG,gZ,reduceCtorEq,cmpC,isV,cV,a1,a2,a3,a4,rdV,hp,decide_false,Bool.false_or];done))))
 refine this▸ ?_;rfl
theorem Zw.Lo{S':Sr}(h:Zw z S)(h1:S'.df.map (·.info)=S.df.map (·.info))(h2:∀r∈Ci S'.rd,r∈Ci S.rd)(h3:S'.d=S.d):Zw z S':=by
 refine ⟨λx hx=>?_,λr hr=>h.rd r (h2 r hr),h3▸h.d⟩;have:x.info∈S'.df.map (·.info):=aT.mpr ⟨x,hx,rfl⟩;rw [h1] at this;refine aR (aT.mp this) λy hy e=>?_;refine (e).symm▸ ?_;exact h.nd y hy
def zY(l:List NV)(ys:List Str):List NV:=ys.foldl (λl y=>kH y (-1) l) l
theorem x7(nm:Str)(v:Int)(l:List Nd):(upd nm (λy=>{y with np:=v}) l).map nv=kH nm v (l.map nv):=HM (g:=λe=>(e.1,v,e.2.2)) (λy=>rfl) l
theorem QB:∀{ys:List Str}{S:Sr}{fr:eB}{os:List O},gp os S->Zw z S->(∀y∈ys,y∈S.df.map (·.nm))->getF fr "n2i" =af (.ref S.hJ)->
  ∃ej os' jv,fQ (λv=>gQ (cx P aj cQ ao) v) (ys.map .str) z ⟨fr,os⟩=af (.next,⟨ej,os'⟩)/\(∀k,k≠ah "node" ->getF ej k=getF fr k)/\gp os' {S with df:=jv}/\my os S os' {S with df:=jv}/\jv.map nv=zY (S.df.map nv) ys/\jv.map (·.info)=S.df.map (·.info):=by
 intro Ij;induction Ij with
 |nil=>
  intro S fr os h hz hy hn;exact ⟨fr,os,S.df,rfl,λ_ _=>rfl,h,my.refl,rfl,rfl⟩
 |cons y ys ih'=>
  intro S fr os h hz hy hn;refine aR (aT.mp (hy y (fg ..))) λx hx q'1=>?_;obtain rfl:=q'1;obtain ⟨h1,f1⟩:=h.Jf hx (-1);have a1:=λfr=>Ny (P:=P) (aj:=aj) (cQ:=cQ) (hd:=true) (z:=z) (fr:=fr) h hx;have a2:=λfr=>HS (P:=P) (aj:=aj) (cQ:=cQ) (hd:=true) (fr:=fr) h hz hx (-1);have e:gQ (cx P aj cQ ao) (.str x.nm) z ⟨fr,os⟩=af (.next,⟨putF fr "node" (.str x.nm),os.set x.info (EB {x with np:= -1})⟩):=by
   (delta gQ;with_reducible repeat' (first|apply hn|apply a1|apply a2|exact br|apply bt|apply bq|apply bE|apply bO|exact aE|apply av (by decide)|apply aO|rfl))
  have em:∀{α:Type}(g:Nd->α),(∀y:Nd,g {y with np:= -1}=g y)->(upd x.nm (λy=>{y with np:= -1}) S.df).map g=S.df.map g:=λg hg=>tj hg S.df;refine dx (ih' (fr:=putF fr "node" (.str x.nm)) h1 (hz.Lo (em _ λ_=>rfl) (λ_ q=>q) rfl) (λa ha=>by show a∈sH _ (upd _ _ _);rw [em _ λ_=>rfl];exact hy a (i8 _ ha)) (by rw [b9,if_neg (by exact iK rfl)];exact hn)) λej os' jv r1 r2 r3 r4 r5 r6=>?_;refine ⟨ej,os',jv,(ig (turn:=λv=>gQ (cx P aj cQ ao) v) e).trans r1,λk hk=>?_,r3,f1.trans r4,?_,?_⟩
  ·rw [r2 k hk,b9];exact if_neg (by first|exact hk|exact λq=>hk q.symm)
  ·refine (r5).trans ?_;show zY (sH nv (upd _ _ _)) ys=_;rw [x7];rfl
  ·refine (r6).trans ?_;exact em _ λ_=>rfl
theorem Nz(h:gp os S)(hr:S.rd=af (r,l))(hz:Bh z os S)(hl:∀y∈l,y∈S.df.map (·.nm))(hs:l.length<=900):∃os' jv,cN P aj (n+1) (.top 99) [.ref S.i] os z=af (.ret (.ref os.length),os')/\os'[os.length]? =af (.tuple (l.map .str))/\
  gp os' {S with df:=jv,rd:=af (r,[]),po:=S.po+l.length}/\my os S os' {S with df:=jv,rd:=af (r,[]),po:=S.po+l.length}/\os.length∉idx {S with df:=jv,rd:=af (r,[]),po:=S.po+l.length}/\jv.map nv=zY (S.df.map nv) l:=by
 rw [zU];have a:=λfr=>h.attr (P:=P) (aj:=aj) (cQ:=cN P aj n) fr z ao;rw [hr] at a;have a1:=λfr=>(a fr).2.1;have o1:=h.rd r l hr;have a2:∀fr,dN (cy P aj n) (.type "tuple") [.ref r] z ⟨fr,os⟩=af (.ret (.ref os.length),⟨fr,os++ [.tuple (l.map .str)]⟩):=λfr=>Ni (by
  have:=dW (o:=.tuple (l.map .str)) (by simp only [sizeOk,aH];exact decide_eq_true (by exact bR hs)) z fr os;exact Qv.trans ((aZ (eL o1 z fr)).trans this))
 have h1:=h.grow [.tuple (l.map .str)];have f1:my os S (os++ [.tuple (l.map .str)]) S:=my.grow _;have a3:=λfr=>(h1.attr (P:=P) (aj:=aj) (cQ:=cN P aj n) fr z ao).1;have t1:(os++ [jk (l.map .str)])[os.length]? =af (.tuple (l.map .str)):=by simp
 have a4:=λfr=>src_tuple (P:=P) (aj:=aj) (cQ:=cN P aj n) (z:=z) (fr:=fr) t1;have tn:os.length∉idx S:=λq=>absurd (h.lt _ q) (aW _);have hz1:Bh (os.length::z) (os++ [.tuple (l.map .str)]) S:=λj hj=>by
  rcases jJ hj with rfl|hj
  ·exact ⟨aX t1,tn⟩
  ·exact ⟨ag (hz j hj).1 f1.len,(hz j hj).2⟩
 refine dx (QB (P:=P) (aj:=aj) (cQ:=cN P aj n) (ys:=l) (fr:=[(ah "self",.ref S.i),(ah "result",.ref os.length),(ah "n2i",.ref S.hJ)]) h1 hz1.zw hl (by rfl)) λkM c7 Iq r1 r2 r3 r4 r5 r6=>?_;have r1':dh (af os.length) (fQ (λv=>gQ (cy P aj n) v) (l.map bp)) z ⟨[("self",.ref S.i),("result",.ref os.length),("n2i",.ref S.hJ)],os++ [.tuple (l.map .str)]⟩=_:=r1;have g1:getF kM "self" =af (.ref S.i):=by refine (r2 _ (by simp [dz])).trans ?_;rfl
 have g2:getF kM "result" =af (.ref os.length):=by refine (r2 _ (by simp [dz])).trans ?_;rfl
 have b:=λfr=>r3.attr (P:=P) (aj:=aj) (cQ:=cN P aj n) fr z ao;have e2:({S with df:=Iq}:Sr).rd=af (r,l):=hr;rw [e2] at b;have b1:=λfr=>(b fr).2.1;have o2:=r3.rd r l e2;have b2:=λfr=>k8 (c:=cy P aj n) (z:=z) (fr:=fr) o2 M6;have hz2:Zw z ({S with df:=Iq}:Sr):=hz.zw.Lo r6 (λ_ q=>q) rfl;have b3:=λfr=>Qt (c:=cy P aj n) (z:=z) (fr:=fr) o2 (hz2.rd r (by refine e2▸ ?_;exact fg));obtain ⟨h3,f3⟩:=r3.R4 e2 [];have t2:c7[os.length]? =af (.tuple (l.map .str)):=(r4.keep _ (aX t1) tn).trans t1;have tn2:os.length∉idx {S with df:=Iq}:=λq=>(r4.idx _ q).elim tn λq=>absurd (aX t1) (cC.mpr q);have t3:(c7.set r (.list []))[os.length]? =af (.tuple (l.map .str)):=(f3.keep _ (aX t2) tn2).trans t2;have tn3:=λq=>(f3.idx os.length q).elim tn2 λq=>absurd (aX t2) (cC.mpr q);have c1:=λfr=>(h3.attr (P:=P) (aj:=aj) (cQ:=cN P aj n) fr z ao).2.2.1;have c2:=λfr=>Jl (P:=P) (aj:=aj) (cQ:=cN P aj n) (z:=z) (fr:=fr) (.inr t3);rw [aH] at c2;have GG:Zw z ({S with df:=Iq,rd:=af (r,[])}:Sr):=hz2.Lo rfl (λq hq=>by refine e2▸ ?_;exact hq) rfl;have c3:=λfr=>Wx (P:=P) (aj:=aj) (cQ:=cN P aj n) (hd:=true) (fr:=fr) h3 GG (S.po+l.length);obtain ⟨h4,f4⟩:=h3.R3 (S.po+l.length) S.fi;have t4:=(f4.keep _ (aX t3) tn3).trans t3;have tn4:=λq=>(f4.idx os.length q).elim tn3 λq=>absurd (aX t3) (cC.mpr q);refine ⟨_,Iq,?_,t4,h4,((f1.trans r4).trans f3).trans f4,tn4,r5⟩;have:pj (cy P aj n) z ⟨[("self",.ref S.i)],os⟩=af (.ret (.ref os.length),⟨kM,(c7.set r (.list [])).set S.d (.ns (uY S.hJ (.ref r) (S.po+l.length) S.fi))⟩):=by
  have b1':∀fr,eD (cy P aj n) (.ref S.i) "_ready_nodes" z ⟨fr,c7⟩=_:=b1;have Yz:∀fr,eD (cy P aj n) (.ref S.i) "_npassedout" z ⟨fr,c7.set r (.list [])⟩=_:=c1;have c2':∀fr,dN (cy P aj n) (.bi "len") [.ref os.length] z ⟨fr,c7.set r (.list [])⟩=_:=c2;have ZZ:∀fr,d8 (cy P aj n) (.ref S.i) "_npassedout" (.int (S.po+l.length)) z ⟨fr,c7.set r (.list [])⟩=_:=c3;(delta pj;with_reducible repeat' (first|apply a1|apply a3|apply a4|apply r1'|apply g1|apply g2|apply b1'|apply Yz|apply ZZ|exact dR _ _ _|exact br|apply bt|apply bq|apply bE|apply bO|exact ba|apply bg (by decide)|exact eZ|apply fL (by decide)|exact aI|exact DX|apply aO|(apply b7;apply bX)|(apply pG;focus with_unfolding_all exact rfl)|(apply ite_no;focus exact bh)|with_unfolding_all apply a2|with_unfolding_all apply b2|with_unfolding_all apply b3|with_unfolding_all apply c2'|with_unfolding_all rfl))
 refine this▸ ?_;rfl
def yZ(p:List NV × List Str)(y:Str):List NV × List Str:=(kH y (kL p.1 y-1) p.1,if kL p.1 y-1=0 then p.2++ [y] else p.2)
theorem QC:∀{ys:List Str}{S:Sr}{fr:eB}{os:List O}{l:List Str},gp os S->S.rd=af (r,l)->Zw z S->(∀y∈ys,y∈S.df.map (·.nm))->l.length+ys.length<=900->getF fr "n2i" =af (.ref S.hJ)->getF fr "self" =af (.ref S.i)->
  ∃ej os' jv l',fQ (λv=>ie (cx P aj cQ ao) v) (ys.map .str) z ⟨fr,os⟩=af (.next,⟨ej,os'⟩)/\(∀k,k≠ah "successor" ->k≠ah "successor_info" ->getF ej k=getF fr k)/\gp os' {S with df:=jv,rd:=af (r,l')}/\my os S os' {S with df:=jv,rd:=af (r,l')}/\(jv.map nv,l')=ys.foldl yZ (S.df.map nv,l)/\jv.map (·.info)=S.df.map (·.info):=by
 intro Ij;induction Ij with
 |nil=>
  intro S fr os l h hr hz hy hs hn hS;exact ⟨fr,os,S.df,l,rfl,λ_ _ _=>rfl,by refine (hr).symm▸ ?_;exact h,by refine (hr).symm▸ ?_;exact my.refl,rfl,rfl⟩
 |cons y ys ih'=>
  intro S fr os l h hr hz hy hs hn hS;refine aR (aT.mp (hy y (fg ..))) λx hx q'1=>?_;obtain rfl:=q'1;simp only [bb] at hs;obtain ⟨h1,f1⟩:=h.Jf hx (x.np-1);have a1:=λfr=>Ny (P:=P) (aj:=aj) (cQ:=cQ) (hd:=true) (z:=z) (fr:=fr) h hx;have a2:=λfr=>D9 (P:=P) (aj:=aj) (cQ:=cQ) (hd:=true) (z:=z) (fr:=fr) h hx;have a3:=λfr=>HS (P:=P) (aj:=aj) (cQ:=cQ) (hd:=true) (fr:=fr) h hz hx (x.np-1);have em:∀{α:Type}(g:Nd->α),(∀y:Nd,g {y with np:=x.np-1}=g y)->(upd x.nm (λy=>{y with np:=x.np-1}) S.df).map g=S.df.map g:=λg hg=>tj hg S.df;have hz1:Zw z ({S with df:=upd x.nm (λy=>{y with np:=x.np-1}) S.df}:Sr):=hz.Lo (em _ λ_=>rfl) (λ_ q=>q) rfl;have qm:({x with np:=x.np-1}:Nd)∈({S with df:=upd x.nm (λy=>{y with np:=x.np-1}) S.df}:Sr).df:=Jm (f:=λy=>{y with np:=x.np-1}) hx rfl;have a4:∀fr,eD (cx P aj cQ ao) (.ref x.info) "npredecessors" z ⟨fr,os.set x.info (EB {x with np:=x.np-1})⟩=af (.int (x.np-1),⟨fr,os.set x.info (EB {x with np:=x.np-1})⟩):=λfr=>D9 (P:=P) (aj:=aj) (cQ:=cQ) (hd:=true) (z:=z) (fr:=fr) (x:={x with np:=x.np-1}) h1 qm;have hd1:yZ (S.df.map nv,l) x.nm=(kH x.nm (x.np-1) (S.df.map nv),if x.np-1=0 then l++ [x.nm] else l):=by
   dsimp only [yZ];exact (Nw h.names hx)▸rfl
  have nms:∀a∈ys,a∈(upd x.nm (λy=>{y with np:=x.np-1}) S.df).map (·.nm):=λa ha=>by rw [em _ λ_=>rfl];exact hy a (i8 _ ha)
  have gf:∀k,k≠ah "successor" ->k≠ah "successor_info" ->getF (putF (putF fr "successor" (.str x.nm)) "successor_info" (.ref x.info)) k=getF fr k:=λk k1 k2=>by
   rw [b9,if_neg k2,b9,if_neg k1]
  by_cases hc:x.np-1=0
  ·--it is ready
   rw [if_pos hc] at hd1;have e2:({S with df:=upd x.nm (λy=>{y with np:=x.np-1}) S.df}:Sr).rd=af (r,l):=hr;have b:=λfr=>(h1.attr (P:=P) (aj:=aj) (cQ:=cQ) fr z ao).2.1;rw [e2] at b;have b1:∀fr,eD (cx P aj cQ ao) (.ref S.i) "_ready_nodes" z ⟨fr,os.set x.info (EB {x with np:=x.np-1})⟩=_:=b;have o2:=h1.rd r l e2;have b2:=λfr=>k8 (c:=cx P aj cQ ao) (z:=z) (fr:=fr) o2 mK;have b3:=λfr=>pH (c:=cx P aj cQ ao) (z:=z) (fr:=fr) (v:=.str x.nm) o2 (hz1.rd r (by refine e2▸ ?_;exact fg)) (by rw [aH];exact qk (RE hs) rfl);obtain ⟨h2,f2⟩:=h1.R4 e2 (l++ [x.nm]);have e3:(l.map bp++ [bp x.nm])=(l++ [x.nm]).map bp:=by simp
   rw [e3] at b3;have e:ie (cx P aj cQ ao) (.str x.nm) z ⟨fr,os⟩=af (.next,⟨putF (putF fr "successor" (.str x.nm)) "successor_info" (.ref x.info),(os.set x.info (EB {x with np:=x.np-1})).set r (.list ((l++ [x.nm]).map bp))⟩):=by
    have hc':decide (x.np-1=0)=ao:=decide_eq_true hc;(delta ie;with_reducible repeat' (first|apply hn|apply hS|apply a1|apply a2|apply a3|apply a4|apply eq_int|apply b1|exact dR _ _ _|exact br|apply bt|apply bq|apply bE|apply bO|exact aE|apply av (by decide)|exact aI|exact Jc|apply kG|apply aO|(apply b7;apply bX)|rfl|with_unfolding_all apply b2|with_unfolding_all apply b3|(apply bV;focus (simp only [mpure,Cg,FE,dR,zI,b9,dz,gE,if_true,if_false,reduceIte,du,eA,dw,iG,gZ,reduceCtorEq,cmpC,isV,cV,hn,hS,a1,a2,EP,a3,a4,eq_int,hc',b1,rdV,b2,bX,b3];done))))
   refine kg (ih' (fr:=putF (putF fr "successor" (.str x.nm)) "successor_info" (.ref x.info)) h2 rfl (hz1.Lo rfl (λq hq=>by refine e2▸ ?_;exact hq) rfl) nms (by simp;exact VB hs) (by refine (gf _ (by simp [dz]) (by simp [dz])).trans ?_;exact hn) (by refine (gf _ (by simp [dz]) (by simp [dz])).trans ?_;exact hS)) λej os' jv l' r1 r2 r3 r4 r5 r6=>?_;refine ⟨ej,os',jv,l',(ig (turn:=λv=>ie (cx P aj cQ ao) v) e).trans r1,λk k1 k2=>(r2 k k1 k2).trans (gf k k1 k2),r3,(f1.trans f2).trans r4,?_,?_⟩
   ·rw [r5,fK,hd1];show pV _ (sH nv (upd _ _ _),_) _=_;rw [x7]
   ·refine (r6).trans ?_;exact em _ λ_=>rfl
  ·rw [if_neg hc] at hd1;have e:ie (cx P aj cQ ao) (.str x.nm) z ⟨fr,os⟩=af (.next,⟨putF (putF fr "successor" (.str x.nm)) "successor_info" (.ref x.info),os.set x.info (EB {x with np:=x.np-1})⟩):=by
    have hc':decide (x.np-1=0)=bc:=decide_eq_false hc;(delta ie;with_reducible repeat' (first|apply hn|apply a1|apply a2|apply a3|apply a4|apply eq_int|exact br|apply bt|apply bq|apply bE|apply bO|exact aE|apply av (by decide)|exact aI|exact Jc|apply kG|apply aO|rfl|(apply ite_no;focus exact nt hc')))
   refine kg (ih' (l:=l) (fr:=putF (putF fr "successor" (.str x.nm)) "successor_info" (.ref x.info)) h1 hr hz1 nms (by exact bS hs) (by refine (gf _ (by simp [dz]) (by simp [dz])).trans ?_;exact hn) (by refine (gf _ (by simp [dz]) (by simp [dz])).trans ?_;exact hS)) λej os' jv l' r1 r2 r3 r4 r5 r6=>?_;refine ⟨ej,os',jv,l',(ig (turn:=λv=>ie (cx P aj cQ ao) v) e).trans r1,λk k1 k2=>(r2 k k1 k2).trans (gf k k1 k2),r3,f1.trans r4,?_,?_⟩
   ·rw [r5,fK,hd1];show pV _ (sH nv (upd _ _ _),_) _=_;rw [x7]
   ·refine (r6).trans ?_;exact em _ λ_=>rfl
theorem gp.Y6(h:gp os S)(hz:Zw z S){x:Nd}(hx:x∈S.df):Zw (x.su::z) S:=by
 refine ⟨λy hy q=>?_,λr hr q=>?_,λq=>?_⟩
 ·rcases jJ q with q|q
  ·by_cases e:x.nm=y.nm
   ·have:=vG h.names hx hy e;subst this;exact (h.ndn hx).2.1 q
   ·exact h.apart hx hy e x.su (by simp [nF]) (by rw [←q];exact fg)
  ·exact hz.nd y hy q
 ·rcases jJ q with q|q
  ·exact (h.head hx (a:=x.su) (by simp [nF])).2.2.2 (q▸hr)
  ·exact hz.rd r hr q
 ·rcases jJ q with q|q
  ·exact (h.head hx (a:=x.su) (by simp [nF])).2.1 q.symm
  ·exact hz.d q
theorem K3(h:gp os S)(hr:S.rd=af (r,l))(hz:Zw z S){x:Nd}(hx:x∈S.df)(hnp:x.np= -1)(hcl:∀y∈x.ss,y∈S.df.map (·.nm))(hs:l.length+x.ss.length<=900)(hn:getF fr "n2i" =af (.ref S.hJ))(hS:getF fr "self" =af (.ref S.i)):
  ∃ej os' jv l',lC (cx P aj cQ ao) (.str x.nm) z ⟨fr,os⟩=af (.next,⟨ej,os'⟩)/\gp os' {S with df:=jv,rd:=af (r,l'),fi:=S.fi+1}/\my os S os' {S with df:=jv,rd:=af (r,l'),fi:=S.fi+1}/\(jv.map nv,l')=x.ss.foldl yZ (kH x.nm (-2) (S.df.map nv),l)/\getF ej "n2i" =af (.ref S.hJ)/\getF ej "self" =af (.ref S.i)/\jv.map (·.info)=S.df.map (·.info):=by
 have a1:=λfr=>Ag (c:=cx P aj cQ ao) (z:=z) (fr:=fr) h.dict DY;have a2:=λfr=>Nf (c:=cx P aj cQ ao) (z:=z) (fr:=fr) (k:=x.nm) h.dict;rw [xY h.names hx] at a2;have a3:=λfr=>D9 (P:=P) (aj:=aj) (cQ:=cQ) (hd:=true) (z:=z) (fr:=fr) h hx;rw [hnp] at a3;have a4:=λfr=>HS (P:=P) (aj:=aj) (cQ:=cQ) (hd:=true) (fr:=fr) h hz hx (-2);obtain ⟨h1,f1⟩:=h.Jf hx (-2);have em:∀{α:Type}(g:Nd->α),(∀y:Nd,g {y with np:= -2}=g y)->(upd x.nm (λy=>{y with np:= -2}) S.df).map g=S.df.map g:=λg hg=>tj hg S.df;have hz1:Zw z ({S with df:=upd x.nm (λy=>{y with np:= -2}) S.df}:Sr):=hz.Lo (em _ λ_=>rfl) (λ_ q=>q) rfl;have qm:({x with np:= -2}:Nd)∈({S with df:=upd x.nm (λy=>{y with np:= -2}) S.df}:Sr).df:=Jm (f:=λy=>{y with np:= -2}) hx rfl;have a5:∀fr,eD (cx P aj cQ ao) (.ref x.info) "successors" z ⟨fr,os.set x.info (EB {x with np:= -2})⟩=af (.ref x.su,⟨fr,os.set x.info (EB {x with np:= -2})⟩):=λfr=>Um (P:=P) (aj:=aj) (cQ:=cQ) (hd:=true) (z:=z) (fr:=fr) (x:={x with np:= -2}) h1 qm;have o1:(os.set x.info (EB {x with np:= -2}))[x.su]? =af (.list (x.ss.map .str)):=(h1.nd _ qm).2.2;have a6:=λfr=>src_list (P:=P) (aj:=aj) (cQ:=cQ) (z:=z) (fr:=fr) o1;have hz2:Zw (x.su::z) ({S with df:=upd x.nm (λy=>{y with np:= -2}) S.df}:Sr):=h1.Y6 (x:={x with np:= -2}) hz1 qm;have gf:∀k,k≠ah "node" ->k≠ah "nodeinfo" ->k≠ah "stat" ->getF (putF (putF (putF fr "node" (.str x.nm)) "nodeinfo" (.ref x.info)) "stat" (.int (-1))) k=getF fr k:=λk k1 k2 k3=>by
  rw [b9,if_neg k3,b9,if_neg k2,b9,if_neg k1]
 have g1:=gf "n2i" (by exact iK rfl) (by exact iK rfl) (by exact iK rfl);have g2:=gf "self" (by exact iK rfl) (by exact iK rfl) (by exact iK rfl);refine kg (QC (P:=P) (aj:=aj) (cQ:=cQ) (ys:=x.ss) (l:=l) (fr:=putF (putF (putF fr "node" (.str x.nm)) "nodeinfo" (.ref x.info)) "stat" (.int (-1))) h1 hr hz2 (λa ha=>by show a∈sH _ (upd _ _ _);rw [em _ λ_=>rfl];exact hcl a ha) (by omega) (g1.trans hn) (g2.trans hS)) λej os' jv l' r1 r2 r3 r4 r5 r6=>?_;have r1':dh (af x.su) (fQ (λv=>ie (cx P aj cQ ao) v) (x.ss.map bp)) z ⟨putF (putF (putF fr "node" (.str x.nm)) "nodeinfo" (.ref x.info)) "stat" (.int (-1)),os.set x.info (EB {x with np:= -2})⟩=_:=r1;have k1:=(r2 "n2i" (by exact iK rfl) (by exact iK rfl)).trans (g1.trans hn);have k2:=(r2 "self" (by exact iK rfl) (by exact iK rfl)).trans (g2.trans hS);have b1:∀fr,eD (cx P aj cQ ao) (.ref S.i) "_nfinished" z ⟨fr,os'⟩=af (.int S.fi,⟨fr,os'⟩):=λfr=>(r3.attr (P:=P) (aj:=aj) (cQ:=cQ) fr z ao).2.2.2;have GG:Zw z ({S with df:=jv,rd:=af (r,l')}:Sr):=hz1.Lo r6 (λq hq=>by show q∈Ci S.rd;refine hr▸ ?_;exact hq) rfl;have b2:∀fr,d8 (cx P aj cQ ao) (.ref S.i) "_nfinished" (.int (S.fi+1)) z ⟨fr,os'⟩=af ((),⟨fr,os'.set S.d (.ns (uY S.hJ (.ref r) S.po (S.fi+1)))⟩):=λfr=>Wy (P:=P) (aj:=aj) (cQ:=cQ) (hd:=true) (fr:=fr) r3 GG (S.fi+1);obtain ⟨h4,f4⟩:=r3.R3 S.po (S.fi+1);refine ⟨ej,os'.set S.d (.ns (uY S.hJ (.ref r) S.po (S.fi+1))),jv,l',?_,h4,(f1.trans r4).trans f4,?_,k1,k2,r6.trans (em _ λ_=>rfl)⟩
 ·(delta lC;with_reducible repeat' (first|apply hn|apply a1|apply a2|apply eq_int|apply a6|apply k2|apply b1|apply b2|exact dR _ _ _|exact br|apply bt|apply bq|apply bE|apply bO|exact aE|apply av (by decide)|exact aI|exact DX|apply yX|apply aO|(apply b7;apply bX)|(apply pG;focus with_unfolding_all exact rfl)|(apply ite_no;focus exact bh)|(apply ite_no;focus decide)|rfl|with_unfolding_all apply a3|with_unfolding_all apply a4|with_unfolding_all apply a5|with_unfolding_all apply r1'))
 ·refine (r5).trans ?_;show pV _ (sH nv (upd _ _ _),_) _=_;rw [x7]
noncomputable def gh(l:List NV):List Str:=(l.filter λe=>decide (e.2.1=0)).map (·.1)
theorem Hi.Nn(h:gp os S)(hi:Hi os.length os os'):gp os' S/\my os S os' S:=⟨h.of_same λj hj=>hi.keep j (h.lt j hj),⟨hi.len,λj hj _=>hi.keep j hj,λj hj=>.inl hj⟩⟩
theorem NA{acc:Nat}{uq:eB}(ha:acc∉idx S)(hza:acc∉z):∀{ns:List Nd}{fr:eB}{os:List O}{L:List Str},gp os S->(∀x∈ns,x∈S.df)->os[acc]? =af (.list (L.map .str))->L.length+ns.length<=900->
  ∃ej,fj (λv=>fx (cx P aj cQ ao) uq acc v) (ns.map λx=>.ref x.info) z ⟨fr,os⟩=af ((),⟨ej,os.set acc (.list ((L++gh (ns.map nv)).map .str))⟩):=by
 intro Ij;induction Ij with
 |nil=>
  intro fr os L h hn hL hs;refine ⟨fr,?_⟩;have:os.set acc (.list ((L++gh (([]:List Nd).map nv)).map .str))=os:=by
   have e:L++gh (([]:List Nd).map nv)=L:=by exact bB _
   rw [e];exact List.ext_getElem? λi=>by
    by_cases q:acc=i
    ·subst q;rw [dA hL,hL]
    ·exact (bH q)
  rw [this];rfl
 |cons x ns ih'=>
  intro fr os L h hn hL hs;have hx:=hn x (fg ..);simp only [bb] at hs;have a1:=λfr=>D9 (P:=P) (aj:=aj) (cQ:=cQ) (hd:=true) (z:=z) (fr:=fr) h hx;have a2:=λfr=>Un (P:=P) (aj:=aj) (cQ:=cQ) (hd:=true) (z:=z) (fr:=fr) h hx;have o1:=λfr=>eL (c:=cx P aj cQ ao) hL z fr;have st:=λfr=>lR (o:=.list (L.map .str++ [.str x.nm])) hL (by simp only [sizeOk,aq,aH,bb,lq];exact decide_eq_true (qk (RE hs) rfl)) hza fr;have tc:fj (λv=>fx (cx P aj cQ ao) uq acc v) ((x::ns).map λx=>.ref x.info)=(fx (cx P aj cQ ao) uq acc (.ref x.info)>>=λ_=>fj (λv=>fx (cx P aj cQ ao) uq acc v) (ns.map λx=>.ref x.info)):=rfl;by_cases hc:x.np=0
  ·have e1:fx (cx P aj cQ ao) uq acc (.ref x.info) z ⟨fr,os⟩=af ((),⟨putF fr "i" (.ref x.info),os.set acc (.list ((L++ [x.nm]).map .str))⟩):=by
    have e3:(L++ [x.nm]).map bp=L.map bp++ [bp x.nm]:=by simp
    refine e3▸ ?_;(delta fx;with_reducible repeat' (first|apply a1|apply eq_int|apply a2|apply o1|apply st|exact br|apply bq|apply bE|apply bO|exact aE|exact aI|apply kG|(apply bV;focus rfl)|rfl|delta i4|(apply bV;focus (simp only [mpure,Cg,FE,dR,zI,b9,dz,gE,if_true,if_false,reduceIte,du,eA,dw,iG,gZ,reduceCtorEq,cmpC,isV,cV,a1,eq_int,hc,decide_true,a2,i4,o1,st];done))))
   obtain ⟨ej,q⟩:=ih' (fr:=putF fr "i" (.ref x.info)) (L:=L++ [x.nm]) (h.other ha (.list ((L++ [x.nm]).map .str))) (λy hy=>hn y (i8 _ hy)) (dA hL) (by simp;exact VB hs);refine ⟨ej,?_⟩;rw [tc,aZ e1,q];have e4:L++ [x.nm]++gh (ns.map nv)=L++gh ((x::ns).map nv):=by
    have:(nv x).2.1=0:=hc;simp only [gh,bx,ku,this,decide_true,if_true];simp [nv]
   rw [e4,oD]
  ·have e1:fx (cx P aj cQ ao) uq acc (.ref x.info) z ⟨fr,os⟩=af ((),⟨putF fr "i" (.ref x.info),os⟩):=by
    have hc':decide (x.np=0)=bc:=decide_eq_false hc;(delta fx;with_reducible repeat' (first|apply a1|apply eq_int|exact br|apply bq|apply bE|apply bO|exact aE|exact aI|apply kG|(apply ite_no;focus exact bh)|rfl|(apply ite_no;focus exact nt hc')))
   obtain ⟨ej,q⟩:=ih' (fr:=putF fr "i" (.ref x.info)) (L:=L) h (λy hy=>hn y (i8 _ hy)) hL (by exact bS hs);refine ⟨ej,?_⟩;rw [tc,aZ e1,q];have e4:gh (ns.map nv)=gh ((x::ns).map nv):=by
    have:decide ((nv x).2.1=0)=bc:=decide_eq_false hc;simp only [gh,bx,ku,this];rfl
   exact (e4)▸rfl
theorem HU(h:os[i]? =af (.values d))(h2:os[d]? =af (.dict es)):gI (cx P aj cQ ao) (.ref i) z ⟨fr,os⟩=af (⟨es.map λe=>e.2,af d⟩,⟨fr,os⟩):=Nl ((aZ (eL h z fr)).trans (aZ (eL h2 z fr)))
def PrR(os':List O)(S':Sr):CR->Option (List Str)->Prop
 | .ret v,ae=>v= .none
 | .exc e,af ring=>∃t i,os'[e]? =af (.exc 55 t)/\os'[t]? =af (.tuple [.str "nodes are in a cycle",.ref i])/\os'[i]? =af (.list (ring.map .str))/\i∉idx S'
 |_,_=>False
theorem FU(h:gp os S)(h0:S.rd=ae)(cl:Cl S g)(hz:Bh z os S){m:Nat}(hn:n<=200)(hr:findP g n (S.df.map (·.nm)) []=af rg)(hne:∀ring,rg=af ring->ring≠ []):
  ∃os' c rd,cN P aj (m+2) (.top 92) [.ref S.i] os z=af (c,os')/\PrR os' {S with rd:=af (rd,gh (S.df.map nv))} c rg/\gp os' {S with rd:=af (rd,gh (S.df.map nv))}/\my os S os' {S with rd:=af (rd,gh (S.df.map nv))}:=by
 rw [Ce];have a:=λfr=>h.attr (P:=P) (aj:=aj) (cQ:=cN P aj (m+1)) fr z ao;rw [h0] at a;have a1:=λfr=>(a fr).2.1;have a2:=λfr=>(a fr).1;have a3:=λfr=>Ag (c:=cy P aj (m+1)) (z:=z) (fr:=fr) h.dict KY;have a4:=λfr=>Ng (c:=cy P aj (m+1)) (z:=z) (fr:=fr) h.dict;have h1:=h.grow [.values S.hJ];have v1:(os++ [vq S.hJ])[os.length]? =af (.values S.hJ):=by simp
 have a5:=λfr=>HU (P:=P) (aj:=aj) (cQ:=cN P aj (m+1)) (z:=z) (fr:=fr) v1 h1.dict;have ek:(S.df.map λx=>(x.nm,ir x.info)).map (λe=>e.2)=S.df.map λx=>ir x.info:=by simp
 rw [ek] at a5;have a6:=λfr=>dW (o:=.list []) (by decide) z fr (os++ [.values S.hJ]);have h2:=h1.grow [.list []];have hacc:(os++ [vq S.hJ]).length=os.length+1:=by exact aq
 rw [hacc] at a6;have an:os.length+1∉idx S:=λq=>absurd (h.lt _ q) (iu);have az:os.length+1∉S.hJ::z:=λq=>by
  rcases jJ q with q|q
  ·have:=h.lt S.hJ (by simp [idx]);exact (iu (q▸this)).elim
  ·have:=(hz _ q).1;exact (iu this).elim
 have o2:(os++ [vq S.hJ]++ [cM []])[os.length+1]? =af (.list (([]:List Str).map .str)):=by
  refine (bT (by simp)).trans ?_;simp
 obtain ⟨kM,e2⟩:=NA (P:=P) (aj:=aj) (cQ:=cN P aj (m+1)) (uq:=fe []) an az (ns:=S.df) (fr:=[]) h2 (λx hx=>hx) o2 (by have:=cl.len;simp;exact bR this);rw [ey] at e2;have h3:=h2.other an (.list ((gh (S.df.map nv)).map .str));have o3:((os++ [vq S.hJ]++ [cM []]).set (os.length+1) (.list ((gh (S.df.map nv)).map .str)))[os.length+1]? =af (.list ((gh (S.df.map nv)).map .str)):=dA o2;have f3:my os S ((os++ [vq S.hJ]++ [cM []]).set (os.length+1) (.list ((gh (S.df.map nv)).map .str))) S:=by
  refine ⟨by simp,λj hj _=>?_,λj hj=>.inl hj⟩;(refine (bH ((OX hj).symm)).trans ?_;refine (aJ (by simp;exact gw hj)).trans ?_;exact (aJ hj))
 generalize XY:(os++ [vq S.hJ]++ [cM []]).set (os.length+1) (.list ((gh (S.df.map nv)).map .str))=iI at*;have b1:=λfr=>Wz (P:=P) (aj:=aj) (cQ:=cN P aj (m+1)) (hd:=true) (fr:=fr) h3 hz.zw (.ref (os.length+1));have h4:=h3.Wq o3 an h0;have f4:my os S (iI.set S.d (.ns (uY S.hJ (.ref (os.length+1)) S.po S.fi))) {S with rd:=af (os.length+1,gh (S.df.map nv))}:=by
  refine (f3.trans (my.set (by simp [idx]) _)).Lo λj hj=>?_;simp only [idx,h0,Ci,aY,aG,c8,or_false,false_or] at hj ⊢;rcases hj with q|q|q|q|q
  ·exact .inl (.inl q)
  ·exact .inl (.inr (.inl q))
  ·exact .inl (.inr (.inr (.inl q)))
  ·right;exact eN (ar q.symm)
  ·exact .inl (.inr (.inr (.inr q)))
 generalize Gw:iI.set S.d (.ns (uY S.hJ (.ref (os.length+1)) S.po S.fi))=yf at*;have b2:∀fr,ew (cy P aj (m+1)) (.ref S.i) "_find_cycle" z ⟨fr,yf⟩=_:=λfr=>h4.DZ (xU P) (by rfl) fr z ao;have b3:=λfr o=>tm (P:=P) (aj:=aj) (cQ:=cN P aj (m+1)) (z:=z) (fr:=fr) (os:=yf) (o:=o) (as:=[]) (jc (xU P));have cl':Cl {S with rd:=af (os.length+1,gh (S.df.map nv))} g:=⟨cl.ss,cl.cl,cl.len⟩;refine ck (FT (P:=P) (aj:=aj) (m:=m) (z:=z) h4 cl' (λj hj=>ag (hz j hj).1 f4.len) hn hr) λED v c1 c2 c3=>?_;obtain ⟨h5,f5⟩:=c2.Nn h4;have Yz:cN P aj (m+1) (.top 127) [.ref S.i] yf z=af (.ret v,ED):=c1;have GH:uP (cy P aj (m+1)) (fe []) (os.length+1) ⟨S.df.map λx=>ir x.info,af S.hJ⟩ z ⟨[],os++ [.values S.hJ]++ [.list []]⟩=af ((),⟨kM,iI⟩):=e2;induction rg using aw with
 |none=>
  have ZZ:v= .none:=c3;subst ZZ;refine ⟨ED,.ret .none,os.length+1,?_,rfl,h5,f4.trans f5⟩;have:lM (cy P aj (m+1)) z ⟨[("self",.ref S.i)],os⟩=af (.next,⟨[("self",.ref S.i),("cycle",.none)],ED⟩):=by
   (delta lM;with_reducible repeat' (first|apply a1|apply a2|apply a3|apply a4|apply a5|apply xV hacc GH|apply b1|apply b2|exact br|apply bt|apply bq|apply bE|apply bO|exact ba|apply bg (by decide)|apply fL (by decide)|exact eZ|exact aI|exact Bd|apply aO|(apply b7;apply bX)|(apply gA;apply b3)|exact Yz|exact dR _ _ _|(apply oR;focus with_unfolding_all exact rfl)|(apply ite_no;focus exact bh)|with_unfolding_all rfl))
  refine this▸ ?_;rfl
 |some ring=>
  refine cO c3 λi q'1 o5 hi=>?_;obtain rfl:=q'1;have hb:ring.isEmpty=bc:=by
   have:=hne ring rfl;induction ring using aC with
   |nil=>exact absurd rfl this
   |cons=>rfl
  have t1:∀fr,cV (cy P aj (m+1)) (.ref i) z ⟨fr,ED⟩=af (ao,⟨fr,ED⟩):=λfr=>(Nq o5).trans (by rw [zp,hb];rfl);refine ⟨ED++ [.tuple [.str "nodes are in a cycle",.ref i]]++ [.exc 55 ED.length],.exc (ED.length+1),os.length+1,?_,⟨ED.length,i,?_,?_,bI (bI o5),λq=>absurd (h4.lt i q) (cC.mpr hi)⟩,(h5.grow _).grow _,(f4.trans f5).trans ((my.grow _).trans (my.grow _))⟩
  ·have:lM (cy P aj (m+1)) z ⟨[("self",.ref S.i)],os⟩=af (.exc (ED.length+1),⟨[("self",.ref S.i),("cycle",.ref i)],ED++ [.tuple [.str "nodes are in a cycle",.ref i]]++ [.exc 55 ED.length]⟩):=by
    (delta lM;with_reducible repeat' (first|apply a1|apply a2|apply a3|apply a4|apply a5|apply xV hacc GH|apply b1|apply b2|exact br|apply bt|apply bq|apply bE|apply bO|exact ba|apply bg (by decide)|apply fL (by decide)|exact eZ|exact aI|exact Bd|apply aO|(apply b7;apply bX)|(apply gA;apply b3)|exact Yz|exact dR _ _ _|(apply oR;focus with_unfolding_all exact rfl)|apply t1|apply KS rfl|exact M3|(apply ite_no;focus exact bh)|(apply bV;focus rfl)|with_unfolding_all rfl))
   refine this▸ ?_;rfl
  ·refine (bT (by simp)).trans ?_;simp
  ·rw [aQ,bT (by exact ax _)];simp
def y5(g:Str->List Str)(n:Nat)(st:PS)(seen:List Str):Option (List Str ⊕ List Str):=match D7 st with
 |none=>af (.inr seen)
 |some p=>wW g n p.1 p.2 seen
noncomputable def wt(g:Str->List Str)(na seen:List Str):Nat:=((na.filter λx=>decide (x∉seen)).map λx=>(g x).length).sum
section
variable{na:List Str}{rk:Str->Nat}
theorem NB{st:PS}(h:y∈seen)(h':y∉st.map (·.1)):wW g (n+1) y st seen=y5 g n st seen:=by
 show (if y∈seen then _ else _)=_;(refine (if_pos h).trans ?_;refine (if_neg h').trans ?_);unfold y5;cases D7 st<;>rfl
theorem Jt{st:PS}(h:y∉seen):wW g (n+1) y st seen=y5 g n ((y,g y)::st) (seen++ [y]):=by
 show (if y∈seen then _ else _)=_;refine (if_neg h).trans ?_;unfold y5;cases D7 ((y,g y)::st)<;>rfl
theorem NC{st:PS}(h:y∈seen)(h':y∈st.map (·.1)):wW g (n+1) y st seen=af (.inl (pL (st.map (·.1)).reverse y)):=by
 show (if y∈seen then _ else _)=_;(refine (if_pos h).trans ?_;exact (if_pos h'))
theorem QD{st:PS}:y5 g n ((y,[])::st) seen=y5 g n st seen:=rfl
theorem Bq{u:Str}{us:List Str}{st:PS}:y5 g n ((y,u::us)::st) seen=wW g n u ((y,us)::st) seen:=rfl
theorem ND(nd:na.Nodup)(hy:y∈na)(hs:y∉seen):(g y).length+wt g na (seen++ [y])=wt g na seen:=by
 unfold wt;induction na with
 |nil=>exact absurd hy aU
 |cons a r ih=>
  have Ip:=bu.mp nd;by_cases e:y=a
  ·subst e;have hr:r.filter (λx=>decide (x∉seen++ [y]))=r.filter λx=>decide (x∉seen):=by
    apply jT;intro x hx;have:x≠y:=λq=>Ip.1 (q▸hx);simp [this]
   rw [b6 (by simp),cu (by simpa using hs),hr];rfl
  ·have hy':y∈r:=(jJ hy).resolve_left e;have h:=ih Ip.2 hy';by_cases ha:a∈seen
   ·rw [b6 (by simp [ha]),b6 (by simp [ha])];exact h
   ·rw [cu (by simp [ha];exact λq=>e q.symm),cu (by simpa using ha)];simp only [bx,jF];exact (Nat.add_left_comm _ _ _).trans (congrArg _ h)
def NF(g:Str->List Str)(na L:List Str)(rk:Str->Nat):Prop:=∀x∈na,x∉L->∀u∈g x,u∈na/\u∉L/\rk u<rk x
theorem explore(nd:na.Nodup)(dead:NF g na L rk):∀(r:Nat) (y:Str) (st:PS) (seen:List Str),rk y<r->y∈na->y∉L->(∀x∈st.map (·.1),x∈L∨rk y<rk x)->
  ∃k seen',(∀n,wW g (n+k) y st seen=y5 g n st seen')/\k+wt g na seen'<=1+wt g na seen/\(∀x∈seen,x∈seen')/\(∀x∈seen',x∈seen∨x∉L)/\y∈seen':=by
 intro r;induction r with
 |zero=>exact λy st seen h=>absurd h (gD _)
 |succ r ih=>
  intro y st seen hr hy hL hst;have Z0:y∉st.map (·.1):=λq=>(hst y q).elim hL (aW _);by_cases hs:y∈seen
  ·exact ⟨1,seen,λn=>NB hs Z0,ax _,λ_ h=>h,λ_ h=>.inl h,hs⟩
  ·have Eu:=dead y hy hL;have key:∀(us:List Str) (zM:List Str),(∀u∈us,u∈g y)->∃k seen',(∀n,y5 g (n+k) ((y,us)::st) zM=y5 g n st seen')/\k+wt g na seen'<=us.length+wt g na zM/\(∀x∈zM,x∈seen')/\(∀x∈seen',x∈zM∨x∉L):=by
    intro us;induction us with
    |nil=>exact λzM _=>⟨0,zM,λn=>QD,by exact ax _,λ_ h=>h,λ_ h=>.inl h⟩
    |cons u us ihu=>
     intro zM hu;refine cT (Eu u (hu u (fg ..))) λh1 h2 h3=>?_;refine dD (ih u ((y,us)::st) zM (ag h3 (dF hr)) h1 h2 (by
      intro x hx;rcases jJ hx with rfl|hx
      ·exact .inr h3
      ·exact (hst x hx).imp_right (aD h3))) λk1 s1 e1 c1 m1 n1 _=>?_
     refine eu (ihu s1 λv hv=>hu v (i8 _ hv)) λk2 s2 e2 c2 m2 n2=>?_;refine ⟨k2+k1,s2,λn=>?_,by simp only [bb];exact w1q c2 c1,λx hx=>m2 x (m1 x hx),λx hx=>(n2 x hx).elim (n1 x) .inr⟩;rw [←dC,Bq,e1,e2]
   refine eu (key (g y) (seen++ [y]) λ_ h=>h) λk s' e c m n'=>?_;have w:=ND (g:=g) nd hy hs;refine ⟨k+1,s',λn=>?_,ai (ar (aN _ _ _)) (ai (iZ (ai c (ar w))) (ar (cD _ 1))),λx hx=>m x (cf _ hx),λx hx=>?_,m y (cH _ (aL.mpr rfl))⟩
   ·rw [←dC,Jt hs,e]
   ·rcases n' x hx with h|h
    ·rcases aG.mp h with h|h
     ·exact .inl h
     ·rw [aL] at h;subst h;exact .inr hL
    ·exact .inr h
theorem NG(nd:na.Nodup)(dead:NF g na L rk){st:PS}(hy:y∈L)(hst:∀x∈st.map (·.1),x∈L):∀(us rest:List Str) (seen:List Str),(∀u∈us,u∈na/\u∉L)->
  ∃k seen',(∀n,y5 g (n+k) ((y,us++rest)::st) seen=y5 g n ((y,rest)::st) seen')/\k+wt g na seen'<=us.length+wt g na seen/\(∀x∈seen,x∈seen')/\(∀x∈seen',x∈seen∨x∉L):=by
 intro us;induction us with
 |nil=>exact λrest seen _=>⟨0,seen,λn=>rfl,by exact ax _,λ_ h=>h,λ_ h=>.inl h⟩
 |cons u us ih=>
  intro rest seen hu;obtain ⟨h1,h2⟩:=hu u (fg ..);refine dD (explore nd dead (rk u+1) u ((y,us++rest)::st) seen (bU _) h1 h2 (by
   intro x hx;rcases jJ hx with rfl|hx
   ·exact .inl hy
   ·exact .inl (hst x hx))) λk1 s1 e1 c1 m1 n1 _=>?_
  refine eu (ih rest s1 λv hv=>hu v (i8 _ hv)) λk2 s2 e2 c2 m2 n2=>?_;refine ⟨k2+k1,s2,λn=>?_,by simp only [bb];exact w1q c2 c1,λx hx=>m2 x (m1 x hx),λx hx=>(n2 x hx).elim (n1 x) .inr⟩;show y5 g (n+(k2+k1)) ((y,u::(us++rest))::st) seen=_;rw [←dC,Bq,e1,e2]
noncomputable def qG(nx:Str->Str):Nat->List Str->Str->List Str
 |0,_,_=>[]
 |n+1,p,y=>if y∈p then pL p y else qG nx n (p++ [y]) (nx y)
theorem walk(nd:na.Nodup)(sub:∀x∈L,x∈na)(cl:∀x∈na,∀u∈g x,u∈na)(dead:NF g na L rk){nx:Str->Str}(XZ:∀y∈L,∃us rest,g y=us++nx y::rest/\(∀u∈us,u∉L)/\nx y∈L):
  ∀(m:Nat) (y:Str) (st:PS) (seen:List Str) (n:Nat),y∈L->(st.map (·.1)).Nodup->(∀x∈st.map (·.1),x∈L)->(∀x∈L,x∈seen↔x∈st.map (·.1))->L.length<st.length+m->1+m+wt g na seen<=n->
  wW g n y st seen=af (.inl (qG nx m (st.map (·.1)).reverse y)):=by
 intro m;induction m with
 |zero=>
  intro y st seen n hy hnd hst _ hl _;have:=jt hnd hst;rw [aH] at this;exact absurd hl (cC.mpr this)
 |succ m ih=>
  intro y st seen n hy hnd hst JP hl hn;obtain ⟨n,rfl⟩:∃n',n=n'+1:=⟨n-1,(fZ (ai (ai (aF _ _) (aF _ _)) hn)).symm⟩;by_cases h:y∈st.map (·.1)
  ·refine (NC ((JP y hy).mpr h) h).trans ?_;show _=af (Sum.inl (if y∈_ then _ else _));rw [if_pos (zq.mpr h)]
  ·have hs:y∉seen:=λq=>h ((JP y hy).mp q);refine ck (XZ y hy) λus rest e Eu hx=>?_;rw [Jt hs,e];have w:=ND (g:=g) nd (sub y hy) hs;refine eu (NG nd dead hy hst us (nx y::rest) (seen++ [y]) λu hu=>⟨cl y (sub y hy) u (by rw [e];exact cf _ hu),Eu u hu⟩) λk s1 e1 c1 m1 n1=>?_;have hul:us.length+1<=(g y).length:=by rw [e,aq,bb];exact bF (lS _) _
   obtain ⟨n',rfl⟩:∃n',n=n'+k:=⟨n-k,(fZ (ai (ai (aF _ _) (ai c1 (ai (cg (eN hul) _) (ar w)))) (eY (ai (ai (ar (cD _ 1)) (cg (aF _ _) _)) hn)))).symm⟩;rw [e1,Bq,ih (nx y) ((y,rest)::st) s1 n' hx (bu.mpr ⟨h,hnd⟩) (by
    intro x hx';rcases jJ hx' with rfl|hx'
    ·exact hy
    ·exact hst x hx') (λx Z1=>⟨λq=>by
     rcases n1 x q with q|q
     ·rcases aG.mp q with q|q
      ·exact i8 _ ((JP x Z1).mp q)
      ·rw [aL] at q;subst q;exact fg ..
     ·exact absurd Z1 q,λq=>m1 x (by
     rcases jJ q with rfl|q
     ·exact cH _ (aL.mpr rfl)
     ·exact cf _ ((JP x Z1).mpr q))⟩) (ag hl (ar (aN _ _ 1))) (j7 (ai (ar ((dC _ _ _).trans (congrArg _ (cD _ _)))) (ai (bF (eN (ai (iZ c1) (ai (ar (aN _ _ 1)) (ai (cg hul _) (ar w))))) _) (eY (ai (ar (aN _ _ 1)) hn)))))]
   show _=af (Sum.inl (if y∈_ then _ else _));rw [if_neg (λq=>h (zq.mp q)),bx,qN]
theorem QE(nd:na.Nodup)(sub:∀x∈L,x∈na)(cl:∀x∈na,∀u∈g x,u∈na)(dead:NF g na L rk){nx:Str->Str}(XZ:∀y∈L,∃us rest,g y=us++nx y::rest/\(∀u∈us,u∉L)/\nx y∈L)(hn:2+L.length+wt g na []<=n):
  ∀(ys seen:List Str),(∀y∈ys,y∈na)->(∀x∈seen,x∉L)->wt g na seen<=wt g na []->findP g n ys seen=af ((ys.find? λy=>decide (y∈L)).map (qG nx (L.length+1) [])):=by
 intro ys;induction ys with
 |nil=>exact λ_ _ _ _=>rfl
 |cons y ys ih=>
  intro seen hys hs hw;have hy:=hys y (fg ..);by_cases hL:y∈L
  ·rw [mj (by simpa using hL)];have h:=walk nd sub cl dead XZ (L.length+1) y [] seen n hL dy (λ_ h=>absurd h aU) (λx hx=>⟨λq=>absurd hx (hs x q),λq=>absurd q aU⟩) (by simp) (ai (dS (ar (Nat.succ_add 1 _).symm) hw) hn);show (if y∈seen then _ else match wW g n y [] seen with|none=>ae|some (.inl ring)=>af (af ring)|some (.inr seen')=>findP g n ys seen')=_;rw [if_neg (λq=>hs y q hL),h];rfl
  ·rw [jm (by simpa using hL)];show (if y∈seen then findP g n ys seen else match wW g n y [] seen with|none=>ae|some (.inl ring)=>af (af ring)|some (.inr seen')=>findP g n ys seen')=_;by_cases X0:y∈seen
   ·refine (if_pos X0).trans ?_;exact ih seen (λx hx=>hys x (i8 _ hx)) hs hw
   ·refine (if_neg X0).trans ?_;refine dD (explore nd dead (rk y+1) y [] seen (bU _) hy hL (λ_ h=>absurd h aU)) λk s1 e1 c1 m1 n1 _=>?_;obtain ⟨n',hn'⟩:∃n',n=n'+k:=⟨n-k,(fZ (ai (aF _ _) (ai c1 (ai (dS (ai (ak rfl:1<=2) (aF _ _)) hw) hn)))).symm⟩;rw [hn',e1,←hn'];show findP g n ys s1=_;have hw1:wt g na s1<=wt g na seen:=by
     unfold wt;have hsub:∀(l:List Str),((l.filter λx=>decide (x∉s1)).map λx=>(g x).length).sum<=((l.filter λx=>decide (x∉seen)).map λx=>(g x).length).sum:=by
      intro l;induction l with
      |nil=>exact ax _
      |cons a l ihl=>
       by_cases h1:a∈seen
       ·rw [b6 (by simp [m1 a h1]),b6 (by simp [h1])];exact ihl
       ·refine (cu (a:=a) (p:=λx=>decide (x∉seen)) (by simpa using h1))▸ ?_;by_cases h2:a∈s1
        ·rw [b6 (by simp [h2]),bx,jF];exact ai ihl (dH _ _)
        ·rw [cu (by simpa using h2),bx,bx,jF,jF];exact bF ihl _
     exact hsub na
    exact ih s1 (λx hx=>hys x (i8 _ hx)) (λx hx=>(n1 x hx).elim (hs x) id) (ai hw1 hw)
end
noncomputable def xo(na:List Str)(t:Str->List Str)(c:Str):List Str:=na.filter λi=>decide (c∈t i)
noncomputable def gT(t:Str->List Str)(c i:Str):List Str:=((t i).filter λs=>decide (s=c)).map λ_=>i
noncomputable def gL(na:List Str)(t:Str->List Str)(c:Str):List Str:=na.flatMap (gT t c)
noncomputable def cG(na:List Str)(t:Str->List Str):Nat->List Str
 |0=>na
 |k+1=>(cG na t k).filter λn=>(xo na t n).any λu=>decide (u∈cG na t k)
noncomputable def R7(na:List Str)(t:Str->List Str)(x:Str):Nat->Nat
 |0=>0
 |k+1=>if x∈cG na t k then k+1 else R7 na t x k
noncomputable def O3(na:List Str)(t:Str->List Str)(n:Nat)(y:Str):Str:=((xo na t y).filter λu=>decide (u∈cG na t n)).headD y
section
variable{na:List Str}
theorem u4{c i u:Str}:u∈gT t c i↔c∈t i/\u=i:=by
 unfold gT;rw [aT];constructor
 ·rintro ⟨s,hs,rfl⟩;have:=bL.mp hs;have e:=iK this.2;exact ⟨e▸this.1,rfl⟩
 ·rintro ⟨h,rfl⟩;exact ⟨c,bL.mpr ⟨h,decide_eq_true rfl⟩,rfl⟩
theorem Ea{c u:Str}:u∈gL na t c↔u∈xo na t c:=by
 unfold gL xo;rw [cI,bL];constructor
 ·rintro ⟨i,hi,h⟩;obtain ⟨h,rfl⟩:=u4.mp h;exact ⟨hi,decide_eq_true h⟩
 ·rintro ⟨h1,h2⟩;exact ⟨u,h1,u4.mpr ⟨iK h2,rfl⟩⟩
theorem x8:x∈cG na t (k+1)↔x∈cG na t k/\∃u∈xo na t x,u∈cG na t k:=by
 show x∈qQ _ _↔_;rw [bL,iX];simp only [decide_eq_true_eq]
theorem vI(h:k<=j):x∈cG na t j->x∈cG na t k:=by
 induction h with
 |refl=>exact id
 |step _ ih=>exact λq=>ih (x8.mp q).1
theorem CX(h:cG na t (k+1)=cG na t k):cG na t (k+2)=cG na t (k+1):=by
 show qQ (λn=>(xo na t n).any λu=>decide (u∈cG na t (k+1))) (cG na t (k+1))=_;rw [h];exact h
theorem HV(k:Nat):cG na t (k+1)=cG na t k∨(cG na t k).length+k<=na.length:=by
 induction k with
 |zero=>exact .inr (ax _)
 |succ k ih=>
  rcases ih with h|h
  ·exact .inl (CX h)
  ·by_cases q:(cG na t (k+1)).length=(cG na t k).length
   ·exact .inl (CX (iP.eq_of_length q))
   ·have:(cG na t (k+1)).length<=(cG na t k).length:=iP.length_le;exact .inr (ai (ar (aN _ _ 1)) (ai (cg (qe this q) _) h))
theorem CY(hn:na.length<=n):cG na t (n+1)=cG na t n:=by
 rcases HV (na:=na) (t:=t) n with h|h
 ·exact h
 ·have:cG na t n= []:=gy.mp (Nat.le_zero.mp (j7 (ai h (ai hn (ar (fD _).symm)))));show qQ _ (cG na t n)=_;rw [this];rfl
theorem WA{u:Str}:∀{n:Nat},(∀j,k<=j->u∉cG na t j)->R7 na t u n<=k/\R7 na t u n<=n:=by
 intro n h;induction n with
 |zero=>exact ⟨fm _,fm _⟩
 |succ n ih=>
  show (if u∈cG na t n then n+1 else R7 na t u n)<=k/\(if u∈cG na t n then n+1 else R7 na t u n)<=n+1;by_cases q:u∈cG na t n
  ·rw [if_pos q];refine ⟨?_,ax _⟩;rcases et n k with hk|hk
   ·exact hk
   ·exact absurd q (h n hk)
  ·rw [if_neg q];exact ⟨ih.1,iw ih.2⟩
theorem WB(hx:x∈cG na t k):∀{n:Nat},k<n->k+1<=R7 na t x n:=by
 intro n h;induction n with
 |zero=>exact absurd h (gD _)
 |succ n ih=>
  show k+1<=(if x∈cG na t n then n+1 else R7 na t x n);by_cases q:x∈cG na t n
  ·rw [if_pos q];exact h
  ·rw [if_neg q];have:k≠n:=λe=>q (e▸hx);exact ih (qe (dF h) this)
theorem NH(h0:x∈na):∀{n:Nat},x∉cG na t n->∃k,k<n/\x∈cG na t k/\x∉cG na t (k+1):=by
 intro n h;induction n with
 |zero=>exact absurd h0 h
 |succ n ih=>
  by_cases q:x∈cG na t n
  ·exact ⟨n,bU _,q,h⟩
  ·refine aR (ih q) λk h1 h2=>?_;exact ⟨k,gw h1,h2⟩
theorem QF:NF (gL na t) na (cG na t n) λx=>R7 na t x n:=λx hx hL u hu=>by
 refine cO (NH hx hL) λk hk h1 h2=>?_;have hu':=Ea.mp hu;have hn:u∉cG na t k:=λq=>h2 (x8.mpr ⟨h1,u,hu',q⟩);refine ⟨(bL.mp hu').1,λq=>hn (vI (bS hk) q),aV (WA (k:=k) λj hj q=>hn (vI hj q)).1 (WB h1 hk)⟩
theorem NI:∀{m:List Str},(∃u∈m.filter (λi=>decide (y∈t i)),u∈L)->∃us rest,m.flatMap (gT t y)=us++((m.filter λi=>decide (y∈t i)).filter λu=>decide (u∈L)).headD y::rest/\(∀u∈us,u∉L)/\
  ((m.filter λi=>decide (y∈t i)).filter λu=>decide (u∈L)).headD y∈L:=by
 intro m;induction m with
 |nil=>rintro ⟨u,hu,_⟩;exact absurd hu aU
 |cons a m ih=>
  intro h;by_cases q:y∈t a
  ·rw [cu (by simpa using q)] at h ⊢;by_cases qa:a∈L
   ·rw [cu (by simpa using qa)];have:∃r,gT t y a=a::r:=by
     have hm:a∈gT t y a:=u4.mpr ⟨q,rfl⟩;cases e:gT t y a with
     |nil=>rw [e] at hm;exact absurd hm aU
     |cons b r=>
      have:=u4.mp (e▸fg .. :b∈gT t y a);exact ⟨r,by rw [this.2]⟩
    obtain ⟨r,e⟩:=this;exact ⟨[],r++m.flatMap (gT t y),by rw [bz,e];rfl,λ_ h=>absurd h aU,qa⟩
   ·rw [b6 (by simpa using qa)];obtain ⟨us,rest,e,h1,h2⟩:=ih (by
     obtain ⟨u,hu,hL⟩:=h;rcases jJ hu with rfl|hu
     ·exact absurd hL qa
     ·exact ⟨u,hu,hL⟩)
    refine ⟨gT t y a++us,rest,by rw [bz,e,aQ],λu hu=>?_,h2⟩;rcases aG.mp hu with hu|hu
    ·rw [(u4.mp hu).2];exact qa
    ·exact h1 u hu
  ·rw [b6 (by simpa using q)] at h ⊢;refine ck (ih h) λus rest e h1 h2=>?_;have e0:gT t y a= []:=by
    cases e:gT t y a with
    |nil=>rfl
    |cons b r=>exact absurd (u4.mp (e▸fg .. :b∈gT t y a)).1 q
   exact ⟨us,rest,by rw [bz,e0];exact e,h1,h2⟩
theorem Ju(hn:na.length<=n):∀y∈cG na t n,∃us rest,gL na t y=us++O3 na t n y::rest/\(∀u∈us,u∉cG na t n)/\O3 na t n y∈cG na t n:=λy hy=>by
 have h:=(x8.mp (CY hn▸hy:y∈cG na t (n+1))).2;exact NI h
theorem K4(nd:na.Nodup)(hn:na.length<=n){N:Nat}(hN:2+(cG na t n).length+wt (gL na t) na []<=N){ys:List Str}(hys:∀y∈ys,y∈na):
  findP (gL na t) N ys []=af ((ys.find? λy=>decide (y∈cG na t n)).map (qG (O3 na t n) ((cG na t n).length+1) [])):=
 QE nd (λx hx=>vI (fm _) hx) (λx _ u hu=>(bL.mp (Ea.mp hu)).1) QF (Ju hn) hN ys [] hys (λ_ h=>absurd h aU) (ax _)
end
theorem NJ(l r:List NV)(x:Str):(l++r).find? (λe=>e.1=x)=(l.find? λe=>e.1=x).or (r.find? λe=>e.1=x):=fI
theorem mM(nm:Str)(g:NV->NV)(hg:∀e,(g e).1=e.1)(l:List NV):(rx nm g l).map (·.1)=l.map (·.1):=by
 dsimp only [rx];refine (dk).trans ?_;refine d7 λe _=>?_;show (if e.1=nm then g e else e).1=e.1;split
 ·exact hg e
 ·rfl
theorem rT(nm:Str)(g:NV->NV)(hg:∀e,(g e).1=e.1)(x:Str):∀l:List NV,(rx nm g l).find? (λe=>e.1=x)=(l.find? λe=>e.1=x).map λe=>if x=nm then g e else e
 | []=>rfl
 |e::l=>by
  show ((if e.1=nm then g e else e)::rx nm g l).find? _=_;rw [jx,jx];have h1:(if e.1=nm then g e else e).1=e.1:=by
   split
   ·exact hg e
   ·rfl
  rw [h1];by_cases q:e.1=x
  ·refine (decide_eq_true q)▸ ?_;subst q;rfl
  ·refine (decide_eq_false q)▸ ?_;exact rT nm g hg x l
theorem CZ(l:List NV)(nm x:Str):x6 (pI l nm) x=x6 l x/\kL (pI l nm) x=kL l x:=by
 dsimp only [pI];split
 ·exact ⟨rfl,rfl⟩
 ·dsimp only [x6,kL];rw [NJ];induction h:l.find? (λe=>e.1=x) using aw with
  |some e=>exact ⟨rfl,rfl⟩
  |none=>
   rw [Option.none_or,jx];by_cases q:nm=x
   ·simp [q]
   ·simp [q]
theorem FV(l:List NV)(nm:Str):nm∈(pI l nm).map (·.1):=by
 dsimp only [pI];split
 ·assumption
 ·simp
theorem Br{l:List NV}(h:x∈l.map (·.1)):∃e,l.find? (λe=>e.1=x)=af e:=by
 refine aR (aT.mp h) λe he q=>?_;have:(l.find? λe=>e.1=x).isSome=ao:=List.find?_isSome.mpr ⟨e,he,decide_eq_true q⟩;exact iD.mp this
theorem QG(l:List NV)(p nm x:Str)(hp:p∈l.map (·.1)):x6 (rx p (tX nm) l) x=x6 l x++(if p=x then [nm] else [])/\kL (rx p (tX nm) l) x=kL l x:=by
 dsimp only [x6,kL];rw [rT p (tX nm) (λ_=>rfl)];by_cases q:p=x
 ·subst q;obtain ⟨e,he⟩:=Br hp;refine he▸ ?_;simp [tX]
 ·have q':¬x=p:=λe=>q e.symm;cases l.find? (λe=>e.1=x) with
  |none=>simp [q]
  |some e=>simp [q,q']
theorem WC(l:List NV)(nm:Str)(k:Int)(x:Str)(hp:nm∈l.map (·.1)):x6 (rx nm (O2 k) l) x=x6 l x/\kL (rx nm (O2 k) l) x=kL l x+(if nm=x then k else 0):=by
 dsimp only [x6,kL];rw [rT nm (O2 k) (λ_=>rfl)];by_cases q:nm=x
 ·subst q;obtain ⟨e,he⟩:=Br hp;refine he▸ ?_;simp [O2]
 ·have q':¬x=nm:=λe=>q e.symm;cases l.find? (λe=>e.1=x) with
  |none=>simp [q]
  |some e=>simp [q,q']
theorem FW{g:NV->NV}(hg:∀e,(g e).1=e.1){l:List NV}:x∈(rx nm g l).map (·.1)↔x∈l.map (·.1):=by rw [mM nm g hg]
theorem FX{l:List NV}:x∈(pI l nm).map (·.1)↔x∈l.map (·.1)∨x=nm:=by
 dsimp only [pI];split
 ·rename_i h
  exact ⟨.inl,λq=>q.elim id λq=>q▸h⟩
 ·simp
section
def FY(nm:Str)(l:List NV)(ps:List Str):List NV:=ps.foldl (λl p=>rx p (tX nm) (pI l p)) l
theorem NK(nm x:Str):∀(ps:List Str) (l:List NV),x6 (FY nm l ps) x=x6 l x++(ps.filter λs=>decide (s=x)).map (λ_=>nm)/\kL (FY nm l ps) x=kL l x:=by
 intro ps;induction ps with
 |nil=>exact λl=>⟨(bB _).symm,rfl⟩
 |cons p ps ih=>
  intro l;obtain ⟨a,b⟩:=ih (rx p (tX nm) (pI l p));obtain ⟨c,d⟩:=QG (pI l p) p nm x (FV l p);obtain ⟨e,f⟩:=CZ l p x;refine ⟨a.trans ?_,b.trans (d.trans f)⟩;rw [c,e];by_cases q:p=x
  ·rw [if_pos q,cu (by simpa using q),aQ];rfl
  ·rw [if_neg q,b6 (by simpa using q),bB]
theorem QH(nm x:Str)(ps:List Str)(l:List NV):x6 (Cj l nm ps) x=x6 l x++(ps.filter λs=>decide (s=x)).map (λ_=>nm)/\kL (Cj l nm ps) x=kL l x+(if nm=x then (ps.length:Int) else 0):=by
 obtain ⟨a,b⟩:=NK nm x ps (rx nm (O2 ps.length) (pI l nm));obtain ⟨c,d⟩:=WC (pI l nm) nm (ps.length:Nat) x (FV l nm);obtain ⟨e,f⟩:=CZ l nm x;exact ⟨a.trans (by rw [c,e]),b.trans (by rw [d,f])⟩
theorem FZ{p:Str->Bool}(l:List NV)(nm:Str):((pI l nm).map (·.1)).find? p=(l.map (·.1)++ [nm]).find? p:=by
 unfold pI;by_cases q:nm∈l.map (·.1)
 ·rw [if_pos q,fI];cases h:(l.map (·.1)).find? p with
  |some a=>rfl
  |none=>
   have:=xh.mp h nm q;rw [jm this];rfl
 ·rw [if_neg q,cw];rfl
theorem HW{p:Str->Bool}(nm:Str):∀(ps:List Str) (l:List NV),((FY nm l ps).map (·.1)).find? p=(l.map (·.1)++ps).find? p:=by
 intro ps;induction ps with
 |nil=>exact λl=>by rw [bB];rfl
 |cons a ps ih=>
  intro l;refine (ih _).trans ?_;rw [fI,mM a (tX nm) (λ_=>rfl),FZ,←fI,aQ];rfl
theorem K5{p:Str->Bool}(nm:Str)(ps:List Str)(l:List NV):((Cj l nm ps).map (·.1)).find? p=(l.map (·.1)++nm::ps).find? p:=by
 refine (HW nm ps _).trans ?_;rw [fI,mM nm (O2 _) (λ_=>rfl),FZ,←fI,aQ];rfl
theorem K6(nm x:Str):∀(ps:List Str) (l:List NV),x∈(FY nm l ps).map (·.1)↔x∈l.map (·.1)∨x∈ps:=by
 intro ps;induction ps with
 |nil=>exact λl=>⟨.inl,λh=>h.resolve_right aU⟩
 |cons a ps ih=>
  intro l;refine (ih _).trans ?_;rw [FW (g:=tX nm) (λ_=>rfl),FX,aY];exact or_assoc
theorem NL(nm x:Str)(ps:List Str)(l:List NV):x∈(Cj l nm ps).map (·.1)↔x∈l.map (·.1)∨x∈nm::ps:=by
 refine (K6 nm x ps _).trans ?_;rw [FW (g:=O2 _) (λ_=>rfl),FX,aY];exact or_assoc
noncomputable def rU(na:List Str)(t:Str->List Str)(i:Str):List Str:=(t i).filter λs=>decide (s∈na)
def gj(na:List Str)(t:Str->List Str)(is:List Str)(l:List NV):List NV:=is.foldl (λl i=>Cj l i (rU na t i)) l
variable{na:List Str}
theorem Bs(hx:x∈na):∀(is:List Str) (l:List NV),is.Nodup->x6 (gj na t is l) x=x6 l x++is.flatMap (gT t x)/\kL (gj na t is l) x=kL l x+(if x∈is then ((rU na t x).length:Int) else 0):=by
 intro is;induction is with
 |nil=>exact λl _=>⟨(bB _).symm,(kA _).symm⟩
 |cons i is ih=>
  intro l nd;have Ip:=bu.mp nd;obtain ⟨a,b⟩:=ih (Cj l i (rU na t i)) Ip.2;obtain ⟨c,d⟩:=QH i x (rU na t i) l;have e:((rU na t i).filter λs=>decide (s=x)).map (λ_=>i)=gT t x i:=by
   unfold rU gT;rw [qf];congr 1;refine jT λs _=>?_;by_cases q:s=x
   ·subst q;simp [hx]
   ·simp [q]
  refine ⟨a.trans ?_,b.trans ?_⟩
  ·rw [c,e,aQ];rfl
  ·rw [d];by_cases q:i=x
   ·subst q;rw [if_pos rfl,if_neg Ip.1,if_pos (fg ..)];exact kA _
   ·have q':¬x=i:=λh=>q h.symm;simp only [if_neg q,aY,q',false_or];exact congrArg (· +_) (kA _)
theorem HX{p:Str->Bool}:∀(is:List Str) (l:List NV),((gj na t is l).map (·.1)).find? p=(l.map (·.1)++is.flatMap λi=>i::rU na t i).find? p:=by
 intro is;induction is with
 |nil=>exact λl=>by rw [ky,bB];rfl
 |cons i is ih=>
  intro l;refine (ih _).trans ?_;rw [fI,K5,←fI,bz,aQ]
theorem K7:∀(is:List Str) (l:List NV),x∈(gj na t is l).map (·.1)↔x∈l.map (·.1)∨x∈is.flatMap λi=>i::rU na t i:=by
 intro is;induction is with
 |nil=>exact λl=>⟨.inl,λh=>h.resolve_right aU⟩
 |cons i is ih=>
  intro l;refine (ih _).trans ?_;rw [NL,bz,aG (s:=i::rU na t i),or_assoc]
theorem lD:x∈(gj na t na []).map (·.1)↔x∈na:=by
 refine (K7 na []).trans ?_;rw [cI];constructor
 ·rintro (h|⟨i,hi,h⟩)
  ·exact absurd h aU
  ·rcases jJ h with rfl|h
   ·exact hi
   ·exact iK (bL.mp h).2
 ·exact λh=>.inr ⟨x,h,fg ..⟩
end
section
theorem vJ{l:List NV}(hy:y∈l.map (·.1))(v:Int)(x:Str):kL (kH y v l) x=if x=y then v else kL l x:=by
 unfold kH kL;rw [rT y (λe=>(e.1,v,e.2.2)) (λ_=>rfl)];by_cases q:x=y
 ·subst q;obtain ⟨e,he⟩:=Br hy;refine he▸ ?_;simp
 ·refine (if_neg q)▸ ?_;cases l.find? (λe=>e.1=x) with
  |none=>rfl
  |some e=>simp [q]
theorem QI(l:List NV)(y:Str)(v:Int)(x:Str):x6 (kH y v l) x=x6 l x:=by
 unfold kH x6;rw [rT y (λe=>(e.1,v,e.2.2)) (λ_=>rfl)];by_cases q:x=y
 ·subst q;cases l.find? (λe=>e.1=x) with
  |none=>rfl
  |some e=>simp
 ·cases l.find? (λe=>e.1=x) with
  |none=>rfl
  |some e=>simp [q]
theorem ly(l:List NV)(y:Str)(v:Int):(kH y v l).map (·.1)=l.map (·.1):=mM y (λe=>(e.1,v,e.2.2)) (λ_=>rfl) l
structure Sm(l l':List NV):Prop where
 nm:l'.map (·.1)=l.map (·.1)
 ss:∀x,x6 l' x=x6 l x
theorem Sm.refl{l:List NV}:Sm l l:=⟨rfl,λ_=>rfl⟩
theorem Sm.trans{l l' ZV:List NV}(a:Sm l l')(b:Sm l' ZV):Sm l ZV:=⟨b.nm.trans a.nm,λx=>(b.ss x).trans (a.ss x)⟩
theorem Sm.kH{v:Int}{l:List NV}:Sm l (kH y v l):=⟨ly l y v,λ_=>QI l y v _⟩
theorem NM:∀(us:List Str) (G:List NV) (l:List Str),(∀x∈us,x∈G.map (·.1)/\(us.count x:Int)<=kL G x)->
  ∃ext G',us.foldl yZ (G,l)=(G',l++ext)/\Sm G G'/\(∀x,kL G' x=kL G x-(us.count x:Int))/\ext.Nodup/\(∀x,x∈ext↔x∈us/\kL G x=(us.count x:Int)):=by
 intro us;induction us with
 |nil=>exact λG l _=>⟨[],G,by simp,.refl,λx=>by simp,dy,λx=>by simp⟩
 |cons u us ih=>
  intro G l h;obtain ⟨hu,hc⟩:=h u (fg ..);rw [vr] at hc;have Vv:∀x,kL (kH u (kL G u-1) G) x=if x=u then kL G u-1 else kL G x:=λx=>vJ hu _ x
  refine dD (ih (kH u (kL G u-1) G) (if kL G u-1=0 then l++ [u] else l) (λx hx=>by
   obtain ⟨h1,h2⟩:=h x (i8 _ hx);refine ⟨by rw [ly];exact h1,?_⟩;rw [Vv];by_cases q:x=u
   ·subst q;rw [if_pos rfl];exact Int.le_sub_one_of_lt hc
   ·rw [if_neg q];rw [uj (λe=>q e.symm)] at h2;exact h2)) λext G' e s n nd m=>?_
  have cnt:∀x,(((u::us).count x:Nat):Int)=(us.count x:Int)+if x=u then 1 else 0:=λx=>by
   by_cases q:x=u
   ·subst q;rw [vr,if_pos rfl];exact rfl
   ·rw [uj (λe=>q e.symm),if_neg q];exact (kA _).symm
  have hn:∀x,kL G' x=kL G x-((u::us).count x:Int):=λx=>by
   rw [n,Vv,cnt];by_cases q:x=u
   ·subst q;rw [if_pos rfl,if_pos rfl];exact (Int.sub_sub _ _ _).trans (congrArg _ (yg _ _))
   ·rw [if_neg q,if_neg q];exact congrArg _ (kA _).symm
  have key:∀x,x∈ext↔(x∈us/\kL G x=((u::us).count x:Int)):=λx=>by
   rw [m,Vv,cnt];by_cases q:x=u
   ·subst q;rw [if_pos rfl,if_pos rfl];exact ⟨λh=>⟨h.1,jI.mp h.2⟩,λh=>⟨h.1,jI.mpr h.2⟩⟩
   ·rw [if_neg q,if_neg q];exact ⟨λh=>⟨h.1,h.2.trans (kA _).symm⟩,λh=>⟨h.1,h.2.trans (kA _)⟩⟩
  show∃ext G',us.foldl yZ (kH u (kL G u-1) G,if kL G u-1=0 then l++ [u] else l)=_/\_;by_cases q:kL G u-1=0
  ·rw [if_pos q] at e ⊢;have Eu:u∉us:=λhm=>by exact absurd (jd.mp (je hc (oC (gF.mp q))):_<=1) (tu.mpr (zo (qg.mpr hm)))
   refine ⟨u::ext,G',by rw [e,aQ];rfl,Sm.kH.trans s,hn,bu.mpr ⟨λhm=>Eu ((key u).mp hm).1,nd⟩,λx=>?_⟩;rw [aY,key,aY];constructor
   ·rintro (rfl|⟨a,b⟩)
    ·exact ⟨.inl rfl,by rw [cnt,if_pos rfl,gn Eu];exact jI.mp q⟩
    ·exact ⟨.inr a,b⟩
   ·rintro ⟨a|a,b⟩
    ·exact .inl a
    ·exact .inr ⟨a,b⟩
  ·rw [if_neg q] at e ⊢;refine ⟨ext,G',e,Sm.kH.trans s,hn,nd,λx=>?_⟩;rw [key,aY];constructor
   ·exact λ⟨a,b⟩=>⟨.inr a,b⟩
   ·rintro ⟨rfl|a,b⟩
    ·rw [cnt,if_pos rfl] at b;have:us.count x≠0:=λz=>q (jI.mpr (b.trans (by rw [z];rfl)));exact ⟨qg.mp (xk this),by rw [cnt,if_pos rfl];exact b⟩
    ·exact ⟨a,b⟩
variable{na:List Str}
def O4(na:List Str)(t:Str->List Str)(x:Str)(D:List Str):Nat:=(rU na t x).countP λp=>decide (p∈D)
theorem R8{D:List Str}:O4 na t x D<=(rU na t x).length:=List.countP_le_length
theorem QJ{D:List Str}(hy:y∉D):O4 na t x (D++ [y])=O4 na t x D+(rU na t x).count y:=by
 unfold O4;generalize rU na t x=l;induction l with
 |nil=>rfl
 |cons a l ih=>
  simp only [sr,List.count_cons,ih];by_cases q:a=y
  ·subst q;simp [hy];exact rfl
  ·simp [q];exact aN _ _ _
theorem HY{D:List Str}:O4 na t x D=(rU na t x).length↔∀p∈rU na t x,p∈D:=by
 unfold O4;rw [List.countP_eq_length];simp only [decide_eq_true_eq]
theorem NN(nd:na.Nodup)(hx:x∈na)(hy:y∈na):(gL na t y).count x=(rU na t x).count y:=by
 have h1:(rU na t x).count y=(t x).count y:=by
  unfold rU;rw [List.count_filter (by simpa using hy)]
 rw [h1];unfold gL;have h2:∀i,(gT t y i).count x=if i=x then (t x).count y else 0:=λi=>by
  by_cases q:i=x
  ·subst q;rw [if_pos rfl];unfold gT;rw [vt,List.countP_map,vt];rw [List.countP_filter];refine List.countP_congr λs _=>?_;simp
  ·rw [if_neg q];refine gn λhm=>q (u4.mp hm).2.symm
 clear h1 hy;induction na with
 |nil=>exact absurd hx aU
 |cons a r ih=>
  have Ip:=bu.mp nd;rw [bz,List.count_append,h2];rcases jJ hx with e|hx
  ·subst e;rw [if_pos rfl];have:(r.flatMap (gT t y)).count x=0:=by
    refine gn λhm=>?_;refine aR (cI.mp hm) λi hi hm=>?_;exact Ip.1 ((u4.mp hm).2▸hi)
   exact congrArg (_+ ·) this
  ·rw [if_neg (λ(q:a=x)=>Ip.1 (q▸hx)),ih Ip.2 hx];exact fD _
end
def x9(p:List NV × List Str)(y:Str):List NV × List Str:=(x6 p.1 y).foldl yZ (kH y (-2) p.1,p.2)
def nU(G:List NV)(rl:List Str):List NV × List Str:=rl.foldl x9 (zY G rl,[])
structure RI(na:List Str)(t:Str->List Str)(G:List NV)(D rl:List Str):Prop where
 nm:∀x,x∈G.map (·.1)↔x∈na
 ss:∀x∈na,x6 G x=gL na t x
 np:∀x∈na,x∉D->kL G x=((rU na t x).length:Int)-(O4 na t x D:Int)
 nd:rl.Nodup
 dn:D.Nodup
 rd:∀x,x∈rl↔x∈na/\x∉D/\∀p∈rU na t x,p∈D
 cl:∀x∈D,x∈na/\∀p∈rU na t x,p∈D
section
variable{na:List Str}{G:List NV}{D rl:List Str}
theorem HZ:∀(ys:List Str) (G:List NV),(∀y∈ys,y∈G.map (·.1))->Sm G (zY G ys)/\∀x,x∉ys->kL (zY G ys) x=kL G x:=by
 intro ys;induction ys with
 |nil=>exact λG _=>⟨.refl,λ_ _=>rfl⟩
 |cons y ys ih=>
  intro G h;obtain ⟨a,b⟩:=ih (kH y (-1) G) λz hz=>by rw [ly];exact h z (i8 _ hz)
  refine ⟨Sm.kH.trans a,λx hx=>?_⟩;have hx':x≠y/\x∉ys:=⟨λq=>hx (q▸fg ..),λq=>hx (i8 _ q)⟩;refine (b x hx'.2).trans ?_;rw [vJ (h y (fg ..)),if_neg hx'.1]
theorem Eb{p:Str}(h:p∈rU na t x):p∈na:=iK (bL.mp h).2
theorem R9(hx:x∈gL na t y)(hy:y∈na):x∈na/\y∈rU na t x:=by
 have:=bL.mp (Ea.mp hx);exact ⟨this.1,bL.mpr ⟨iK this.2,decide_eq_true hy⟩⟩
structure RS(na:List Str)(t:Str->List Str)(G:List NV)(D rl Q:List Str)(p:List NV × List Str):Prop where
 sm:Sm G p.1
 np:∀x∈na,x∉D->x∉rl->kL p.1 x=((rU na t x).length:Int)-(O4 na t x (D++Q):Int)
 nd:p.2.Nodup
 rd:∀x,x∈p.2↔x∈na/\x∉D/\x∉rl/\kL p.1 x=0
theorem RS.step(nd:na.Nodup)(h:RI na t G D rl){Q R:List Str}(e:rl=Q++y::R){p:List NV × List Str}(s:RS na t G D rl Q p):RS na t G D rl (Q++ [y]) (x9 p y):=by
 have U8:y∈rl:=e▸cH _ (fg ..);refine cT ((h.rd y).mp U8) λhy Z2 hyp=>?_;have hyQ:y∉D++Q:=λq=>by
  rcases aG.mp q with q|q
  ·exact Z2 q
  ·have:=h.nd;rw [e,bk] at this;exact this.2.2 y q y (fg ..) rfl
 have hss:x6 p.1 y=gL na t y:=(s.sm.ss y).trans (h.ss y hy);have Eu:∀x∈gL na t y,x∈na/\x∉D/\x∉rl:=λx hx=>by
  obtain ⟨h1,h2⟩:=R9 hx hy;exact ⟨h1,λq=>Z2 ((h.cl x q).2 y h2),λq=>Z2 (((h.rd x).mp q).2.2 y h2)⟩
 have hnm:∀x∈na,x∈p.1.map (·.1):=λx hx=>by rw [s.sm.nm];exact (h.nm x).mpr hx
 have X3:∀x,x≠y->kL (kH y (-2) p.1) x=kL p.1 x:=λx q=>by rw [vJ (hnm y hy),if_neg q]
 have hne:∀x∈gL na t y,x≠y:=λx hx q=>(Eu x hx).2.2 (q▸U8);have U9:∀x∈na,(gL na t y).count x=(rU na t x).count y:=λx hx=>NN nd hx hy;have Z3:∀x,O4 na t x (D++(Q++ [y]))=O4 na t x (D++Q)+(rU na t x).count y:=λx=>by rw [←aQ];exact QJ hyQ
 refine dD (NM (gL na t y) (kH y (-2) p.1) p.2 (λx hx=>by
  obtain ⟨h1,h2,h3⟩:=Eu x hx;refine ⟨by rw [ly];exact hnm x h1,?_⟩;rw [X3 x (hne x hx),s.np x h1 h2 h3,U9 x h1];have:=R8 (na:=na) (t:=t) (x:=x) (D:=D++(Q++ [y]));rw [Z3] at this;exact Int.le_sub_left_of_add_le (jd.mpr this))) λext G' e1 YA n1 nd1 m1=>?_
 have E:x9 p y=(G',p.2++ext):=by unfold x9;rw [hss];exact e1
 rw [E];have YB:∀x∈na,x∉D->x∉rl->kL G' x=kL p.1 x-((gL na t y).count x:Int):=λx h1 h2 h3=>by rw [n1,X3 x λq=>h3 (q▸U8)]
 refine ⟨s.sm.trans (Sm.kH.trans YA),λx h1 h2 h3=>?_,?_,λx=>?_⟩
 ·show kL G' x=_;rw [YB x h1 h2 h3,s.np x h1 h2 h3,Z3,U9 x h1];exact Int.sub_sub _ _ _
 ·show (p.2++ext).Nodup;refine bk.mpr ⟨s.nd,nd1,λa ha b hb q=>?_⟩;subst q;have h0:=((s.rd a).mp ha).2.2.2;obtain ⟨hb1,hb2⟩:=(m1 a).mp hb;rw [X3 a (hne a hb1),h0] at hb2;have:=qg.mpr hb1;exact absurd (nu.mp hb2) (bP this)
 ·show x∈p.2++ext↔_/\_/\_/\kL G' x=0;rw [aG,s.rd,m1];constructor
  ·rintro (⟨h1,h2,h3,h4⟩|⟨h1,h2⟩)
   ·refine ⟨h1,h2,h3,?_⟩;rw [YB x h1 h2 h3,h4];have h5:=s.np x h1 h2 h3;have:=R8 (na:=na) (t:=t) (x:=x) (D:=D++(Q++ [y]));rw [Z3] at this;rw [U9 x h1,Nat.le_zero.mp (Nat.le_of_add_le_add_left (ai this (ar (nu.mp (gF.mp (h5.symm.trans h4))))))];rfl
   ·refine cT (Eu x h1) λa b c=>?_;refine ⟨a,b,c,?_⟩;rw [X3 x (hne x h1)] at h2;rw [YB x a b c,h2];exact Int.sub_self _
  ·rintro ⟨h1,h2,h3,h4⟩;rw [YB x h1 h2 h3] at h4;by_cases q:x∈gL na t y
   ·exact .inr ⟨q,by refine (X3 x (hne x q)).trans ?_;exact gF.mp h4⟩
   ·rw [gn q] at h4;exact .inl ⟨h1,h2,h3,gF.mp h4⟩
theorem RS.steps(nd:na.Nodup)(h:RI na t G D rl):∀{R Q:List Str}{p:List NV × List Str},rl=Q++R->RS na t G D rl Q p->RS na t G D rl rl (R.foldl x9 p):=by
 intro R;induction R with
 |nil=>intro Q p e s;rw [bB] at e;subst e;exact s
 |cons y R ih=>exact λe s=>ih (by rw [e,aQ];rfl) (s.step nd h e)
theorem RI.round(nd:na.Nodup)(h:RI na t G D rl):RI na t (nU G rl).1 (D++rl) (nU G rl).2:=by
 obtain ⟨o1,o2⟩:=HZ rl G λy hy=>(h.nm y).mpr ((h.rd y).mp hy).1;have s0:RS na t G D rl [] (zY G rl,[]):=by
  refine ⟨o1,λx h1 h2 h3=>?_,dy,λx=>⟨λq=>absurd q aU,λ⟨h1,h2,h3,h4⟩=>?_⟩⟩
  ·show kL (zY G rl) x=_;rw [o2 x h3,bB];exact h.np x h1 h2
  ·exfalso;have h5:kL (zY G rl) x=0:=h4;rw [o2 x h3,h.np x h1 h2] at h5;exact h3 ((h.rd x).mpr ⟨h1,h2,HY.mp ((nu.mp (gF.mp h5)).symm)⟩)
 have s:=RS.steps nd h (R:=rl) (Q:=[]) rfl s0;have hD:∀x,x∉D++rl↔x∉D/\x∉rl:=λx=>by rw [aG,not_or]
 refine ⟨λx=>by rw [show (nU G rl).1.map (·.1)=_ from s.sm.nm];exact h.nm x,λx hx=>(s.sm.ss x).trans (h.ss x hx),λx h1 h2=>s.np x h1 ((hD x).mp h2).1 ((hD x).mp h2).2,s.nd,?_,λx=>?_,λx hx=>?_⟩
 ·exact bk.mpr ⟨h.dn,h.nd,λa ha b hb q=>((h.rd b).mp hb).2.1 (q▸ha)⟩
 ·refine (s.rd x).trans ?_;rw [hD];constructor
  ·rintro ⟨h1,h2,h3,h4⟩;have h5:kL (nU G rl).1 x=0:=h4;rw [show kL (nU G rl).1 x=_ from s.np x h1 h2 h3] at h5;exact ⟨h1,⟨h2,h3⟩,HY.mp ((nu.mp (gF.mp h5)).symm)⟩
  ·rintro ⟨h1,⟨h2,h3⟩,h4⟩;refine ⟨h1,h2,h3,?_⟩;have:=HY.mpr h4;show kL (nU G rl).1 x=0;rw [show kL (nU G rl).1 x=_ from s.np x h1 h2 h3];exact gF.mpr (congrArg _ this.symm)
 ·rcases aG.mp hx with hx|hx
  ·obtain ⟨a,b⟩:=h.cl x hx;exact ⟨a,λp hp=>cf _ (b p hp)⟩
  ·refine cT ((h.rd x).mp hx) λa b c=>?_;exact ⟨a,λp hp=>cf _ (c p hp)⟩
theorem RI.first(nd:na.Nodup)(hg:((gj na t na []).map (·.1)).Nodup):RI na t (gj na t na []) [] (gh (gj na t na [])):=by
 have hnp:∀x∈na,kL (gj na t na []) x=((rU na t x).length:Int):=λx hx=>by
  rw [(Bs hx na [] nd).2,if_pos hx];show (0:Int)+_=_;exact Int.zero_add _
 refine ⟨λx=>lD,λx hx=>(Bs hx na [] nd).1,λx hx _=>?_,?_,dy,λx=>?_,λx hx=>absurd hx aU⟩
 ·refine (hnp x hx).trans ?_;show _=_-((List.countP _ _:Nat):Int);simp
 ·exact (iP.map _).nodup hg
 ·unfold gh;refine (aT).trans ?_;have find:∀e∈gj na t na [],kL (gj na t na []) e.1=e.2.1:=λe he=>by
   have:∀l:List NV,(l.map (·.1)).Nodup->e∈l->l.find? (λa=>a.1=e.1)=af e:=by
    intro l;induction l with
    |nil=>exact λ_ h=>absurd h aU
    |cons a l ih=>
     intro hn hm;have hn':=bu.mp hn;rcases jJ hm with rfl|hm
     ·exact (mj (by simp))
     ·rw [jm (by
       have:a.1≠e.1:=λq=>hn'.1 (aT.mpr ⟨e,hm,q.symm⟩);simpa using this)]
      exact ih hn'.2 hm
   unfold kL;refine (this _ hg he)▸ ?_;rfl
  constructor
  ·rintro ⟨e,he,rfl⟩;obtain ⟨h1,h2⟩:=bL.mp he;have hx:e.1∈na:=lD.mp (aT.mpr ⟨e,h1,rfl⟩);refine ⟨hx,aU,?_⟩;have h3:=find e h1;rw [hnp _ hx,iK h2] at h3;have:(rU na t e.1)= []:=gy.mp (nu.mp h3);rw [this];exact λp hp=>absurd hp aU
  ·rintro ⟨hx,_,hp⟩;obtain ⟨e,he,rfl⟩:=aT.mp (lD.mpr hx);refine ⟨e,bL.mpr ⟨he,decide_eq_true ?_⟩,rfl⟩;(refine (find e he).symm.trans ?_;refine (hnp _ hx).trans ?_);have:(rU na t e.1)= []:=by
    cases q:rU na t e.1 with
    |nil=>rfl
    |cons a r=>exact absurd (hp a (q▸fg ..)) aU
   refine this▸ ?_;rfl
end
noncomputable def u5(na:List Str)(t:Str->List Str):Nat->Str->Bool
 |0,_=>bc
 |k+1,x=>(rU na t x).all (u5 na t k)
noncomputable def ub(na:List Str)(t:Str->List Str):Nat->Str->List Str
 |0,x=>[x]
 |k+1,x=>(t x).flatMap λc=>if c∈na then ub na t k c else [c]
noncomputable def u6(na:List Str)(t:Str->List Str)(s:List Str):List Str:=s.flatMap λc=>if c∈na then t c else [c]
noncomputable def jP(na:List Str)(t:Str->List Str)(x:Str):Nat->Nat->Nat × List Str
 |0,_=>(4,[])
 |n+1,k=>if u5 na t (k+1) x=ao then (k,ub na t (k+1) x) else jP na t x n (k+1)
def C0(na:List Str)(t:Str->List Str)(x:Str):Nat:=(jP na t x 4 0).1
noncomputable def k9(na:List Str)(t:Str->List Str):Nat->List NV × List Str × List Str
 |0=>(gj na t na [],[],gh (gj na t na []))
 |k+1=>((nU (k9 na t k).1 (k9 na t k).2.2).1,(k9 na t k).2.1++(k9 na t k).2.2,(nU (k9 na t k).1 (k9 na t k).2.2).2)
section
variable{na:List Str}
theorem WD(k:Nat)(c:Str):u6 na t (if c∈na then ub na t k c else [c])=if c∈na then ub na t (k+1) c else [c]:=by
 induction k generalizing c with
 |zero=>
  by_cases h:c∈na
  ·rw [if_pos h,if_pos h];show ([c].flatMap _)=(t c).flatMap _;rw [jn,if_pos h];have:(λc=>if c∈na then ub na t 0 c else [c])=λc=>[c]:=by
    funext c;split<;>rfl
   rw [this];simp
  ·rw [if_neg h,if_neg h];show [c].flatMap _=_;rw [jn,if_neg h]
 |succ k ih=>
  by_cases h:c∈na
  ·rw [if_pos h,if_pos h];show ((t c).flatMap _).flatMap _=(t c).flatMap _;rw [List.flatMap_assoc];exact congrArg (λf=>(t c).flatMap f) (funext λc'=>ih c')
  ·rw [if_neg h,if_neg h];show [c].flatMap _=_;rw [jn,if_neg h]
theorem Ec(hx:x∈na)(k:Nat):u6 na t (ub na t k x)=ub na t (k+1) x:=by
 have:=WD (na:=na) (t:=t) k x
 rwa [if_pos hx,if_pos hx] at this
theorem NO(k:Nat):∀x∈na,(ub na t k x).filter (λc=>decide (c∈na))= []↔u5 na t k x=ao:=by
 induction k with
 |zero=>
  intro x hx;show [x].filter _= []↔bc=ao;rw [cu (by simpa using hx)];simp
 |succ k ih=>
  intro x hx;show ((t x).flatMap _).filter _= []↔(rU na t x).all (u5 na t k)=ao;rw [v8,List.flatMap_eq_nil_iff,bK];constructor
  ·intro h p hp;have YC:=bL.mp hp;have hn:=iK YC.2;have:=h p YC.1;rw [if_pos hn] at this;exact (ih p hn).mp this
  ·intro h c hc;by_cases q:c∈na
   ·rw [if_pos q];exact (ih c q).mpr (h c (bL.mpr ⟨hc,decide_eq_true q⟩))
   ·rw [if_neg q,b6 (by simpa using q)];rfl
theorem WE:∀{x:Str},u5 na t k x=ao->u5 na t (k+1) x=ao:=by
 induction k with
 |zero=>intro x h;injection h
 |succ k ih=>
  intro x h;have h:=bK.mp h;exact bK.mpr λp hp=>ih (h p hp)
theorem Bt(h:k<=j):u5 na t k x=ao->u5 na t j x=ao:=by
 induction h with
 |refl=>exact id
 |step _ ih=>exact λq=>WE (ih q)
theorem Jv:∀{x:Str},u5 na t k x=ao->∀j,k<=j->ub na t j x=ub na t k x:=by
 induction k with
 |zero=>intro x h;injection h
 |succ k ih=>
  intro x h j hj;have h:=bK.mp h;obtain ⟨j,rfl⟩:∃i,j=i+1:=⟨j-1,(fZ (sI hj)).symm⟩;show (t x).flatMap _=(t x).flatMap _;have e:∀c∈t x,(if c∈na then ub na t j c else [c])=if c∈na then ub na t k c else [c]:=λc hc=>by
   by_cases q:c∈na
   ·rw [if_pos q,if_pos q,ih (h c (bL.mpr ⟨hc,decide_eq_true q⟩)) j (eY hj)]
   ·rw [if_neg q,if_neg q]
  rw [zr,zr,d7 e]
theorem vK(x:Str):∀(n k:Nat),k+n=4->u5 na t k x=bc->(∃j,k<=j/\j<4/\u5 na t (j+1) x=ao/\u5 na t j x=bc/\jP na t x n k=(j,ub na t (j+1) x))∨(u5 na t 4 x=bc/\jP na t x n k=(4,[])):=by
 intro n;induction n with
 |zero=>intro k hk h;obtain rfl:k=4:=hk;exact .inr ⟨h,rfl⟩
 |succ n ih=>
  intro k hk h;show (∃j,_/\_/\_/\_/\(if u5 na t (k+1) x=ao then _ else _)=_)∨(_/\(if u5 na t (k+1) x=ao then _ else _)=_);by_cases q:u5 na t (k+1) x=ao
  ·rw [if_pos q];exact .inl ⟨k,ax _,Vk hk,q,h,rfl⟩
  ·rw [if_neg q];rcases ih (k+1) ((aN _ _ _).trans hk) (by simpa using q) with ⟨j,h1,h2⟩|h1
   ·exact .inl ⟨j,dU h1,h2⟩
   ·exact .inr h1
theorem H0(hk:k<4):C0 na t x=k↔u5 na t (k+1) x=ao/\u5 na t k x=bc:=by
 unfold C0;rcases vK (na:=na) (t:=t) x 4 0 rfl rfl with ⟨j,_,h2,h3,h4,h5⟩|⟨h1,h2⟩
 ·rw [h5];constructor
  ·rintro rfl;exact ⟨h3,h4⟩
  ·rintro ⟨a,b⟩;show j=k;rcases Nat.lt_trichotomy j k with h|h|h
   ·rw [Bt (by exact h:j+1<=k) h3] at b;injection b
   ·exact h
   ·rw [Bt (by exact h:k+1<=j) a] at h4;injection h4
 ·rw [h2];constructor
  ·intro h;have:4=k:=h;exact absurd this.symm (bP hk)
  ·rintro ⟨a,_⟩;rw [Bt (by exact hk:k+1<=4) a] at h1;injection h1
theorem NP(h:C0 na t x<4):jP na t x 4 0=(C0 na t x,ub na t 4 x):=by
 rcases vK (na:=na) (t:=t) x 4 0 rfl rfl with ⟨j,_,h2,h3,h4,h5⟩|⟨h1,h2⟩
 ·unfold C0;rw [h5,Jv h3 4 (h2)]
 ·unfold C0 at h;rw [h2] at h;exact absurd h (aW _)
theorem NQ:C0 na t x<4↔u5 na t 4 x=ao:=by
 constructor
 ·intro h;exact Bt (by exact h:C0 na t x+1<=4) ((H0 h).mp rfl).1
 ·intro h;rcases vK (na:=na) (t:=t) x 4 0 rfl rfl with ⟨j,_,h2,_,_,h5⟩|⟨h1,_⟩
  ·unfold C0;rw [h5];exact h2
  ·rw [h] at h1;injection h1
theorem C1(nd:na.Nodup)(hg:((gj na t na []).map (·.1)).Nodup)(k:Nat):RI na t (k9 na t k).1 (k9 na t k).2.1 (k9 na t k).2.2:=by
 induction k with
 |zero=>exact RI.first nd hg
 |succ k ih=>exact ih.round nd
theorem vL(nd:na.Nodup)(hg:((gj na t na []).map (·.1)).Nodup)(k:Nat):∀x,x∈(k9 na t k).2.1↔x∈na/\u5 na t k x=ao:=by
 induction k with
 |zero=>exact λx=>⟨λh=>absurd h aU,λh=>by injection h.2⟩
 |succ k ih=>
  intro x;have h:=C1 nd hg k;show x∈_++_↔_/\(rU na t x).all (u5 na t k)=ao;rw [aG,h.rd,bK];constructor
  ·rintro (q|⟨a,_,c⟩)
   ·obtain ⟨a,b⟩:=h.cl x q;exact ⟨a,λp hp=>((ih p).mp (b p hp)).2⟩
   ·exact ⟨a,λp hp=>((ih p).mp (c p hp)).2⟩
  ·rintro ⟨a,b⟩;by_cases q:x∈(k9 na t k).2.1
   ·exact .inl q
   ·exact .inr ⟨a,q,λp hp=>(ih p).mpr ⟨Eb hp,b p hp⟩⟩
theorem F0(nd:na.Nodup)(hg:((gj na t na []).map (·.1)).Nodup)(hk:k<4):∀x,x∈(k9 na t k).2.2↔x∈na/\C0 na t x=k:=by
 intro x;have h:=C1 nd hg k;rw [h.rd,vL nd hg,H0 hk];constructor
 ·rintro ⟨a,b,c⟩;refine ⟨a,bK.mpr λp hp=>((vL nd hg k p).mp (c p hp)).2,?_⟩;cases q:u5 na t k x with
  |false=>rfl
  |true=>exact absurd ⟨a,q⟩ b
 ·rintro ⟨a,b,c⟩;refine ⟨a,λq=>by rw [q.2] at c;injection c,λp hp=>(vL nd hg k p).mpr ⟨Eb hp,bK.mp b p hp⟩⟩
theorem QK{K:Nat}(h:∀x∈na,u5 na t (K+1) x=ao->u5 na t K x=ao):∀j,∀x∈na,u5 na t (K+j) x=ao->u5 na t K x=ao:=by
 have key:∀j,∀x∈na,u5 na t (K+j+1) x=ao->u5 na t (K+j) x=ao:=by
  intro j;induction j with
  |zero=>exact h
  |succ j ih=>
   intro x hx q;have q:=bK.mp q;exact bK.mpr λp hp=>ih p (Eb hp) (q p hp)
 intro j;induction j with
 |zero=>exact λ_ _ q=>q
 |succ j ih=>exact λx hx q=>ih x hx (key j x hx q)
theorem QL(nd:na.Nodup)(hg:((gj na t na []).map (·.1)).Nodup)(h4:na.length<=4):∃K,K<=4/\(∀k,k<K->(k9 na t k).2.2≠ [])/\(k9 na t K).2.2= []:=by
 have len:∀k,(∀j,j<k->(k9 na t j).2.2≠ [])->k<=(k9 na t k).2.1.length:=by
  intro k;induction k with
  |zero=>exact λ_=>fm _
  |succ k ih=>
   intro h;have h1:=ih λj hj=>h j (aD hj (bU _));have h2:=List.length_pos_iff.mpr (h k (bU _));show _<=ve ((k9 na t k).2.1++(k9 na t k).2.2);rw [aq];exact dS h1 h2
 have dec:∀n,(∃K,K<n/\(∀k,k<K->(k9 na t k).2.2≠ [])/\(k9 na t K).2.2= [])∨(∀k,k<n->(k9 na t k).2.2≠ []):=by
  intro n;induction n with
  |zero=>exact .inr λk hk=>absurd hk (gD _)
  |succ n ih=>
   rcases ih with ⟨K,a,b⟩|h
   ·exact .inl ⟨K,aD a (bU _),b⟩
   ·by_cases q:(k9 na t n).2.2= []
    ·exact .inl ⟨n,bU _,h,q⟩
    ·refine .inr λk hk=>?_;rcases et k n with c|c
     ·exact h k c
     ·obtain rfl:k=n:=hV (dF hk) c;exact q
 rcases dec 4 with ⟨K,a,b⟩|h
 ·exact ⟨K,bS a,b⟩
 ·refine ⟨4,ax _,h,?_⟩;have hr:=C1 nd hg 4;have hl:=len 4 h;cases q:(k9 na t 4).2.2 with
  |nil=>rfl
  |cons x r=>
   refine cT ((hr.rd x).mp (q▸fg ..)) λa b _=>?_;have:=jt (l:=x::(k9 na t 4).2.1) (m:=na) (bu.mpr ⟨b,hr.dn⟩) (λy hy=>by
    rcases jJ hy with rfl|hy
    ·exact a
    ·exact (hr.cl y hy).1)
   simp only [bb] at this;exact absurd (ag (aV hl this) h4) (aW _)
end
theorem C2(h:k<n)(hn:n<=1000000):qV (k:Int) n=af k:=by
 unfold qV;refine (if_pos (qk (bS (ag h hn)) rfl)).trans ?_;unfold oV;rw [if_neg (mP.mpr (dY _))];exact if_pos (by rw [decide_eq_true (dY k),decide_eq_true (oG.mpr h)];rfl)
theorem ya(h:os[i]? =af (.list xs)∨os[i]? =af (.tuple xs))(hk:xs[k]? =af v)(hs:xs.length<=1000000):d0 c (.ref i) (.int k) z ⟨fr,os⟩=af (v,⟨fr,os⟩):=by
 have hl:k<xs.length:=(cP.mp hk).1;have e:((qV k xs.length).bind λj=>xs[j]?)=af v:=by rw [C2 hl hs,ct,hk]
 rcases h with h|h
 ·exact (aZ (eL h z fr)).trans (ff e z _)
 ·exact (aZ (eL h z fr)).trans (ff e z _)
theorem args_get{e t:Nat}(h:os[e]? =af (.exc 55 t)):eD (cx P aj cQ hd) (.ref e) "args" z ⟨fr,os⟩=af (.ref t,⟨fr,os⟩):=(aZ (eL h z fr)).trans (Ba ⟨rfl,fg⟩ z _)
def Y7(os':List O)(S':Sr)(v:V):Option (List Str)->Prop
 |none=>v= .none
 |some ring=>∃t i,v= .ref t/\os'[t]? =af (.tuple [.str "ring",.ref i])/\os'[i]? =af (.list (ring.map .str))/\i∉idx S'/\t∉idx S'
theorem Ed(h:gp os S)(h0:S.rd=ae)(cl:Cl S g)(hz:Bh z os S){m:Nat}(hn:n<=200)(hr:findP g n (S.df.map (·.nm)) []=af rg)(hne:∀ring,rg=af ring->ring≠ []):
  ∃os' v rd,cN P aj (m+3) (.top 229) [.ref S.i] os z=af (.ret v,os')/\Y7 os' {S with rd:=af (rd,gh (S.df.map nv))} v rg/\gp os' {S with rd:=af (rd,gh (S.df.map nv))}/\my os S os' {S with rd:=af (rd,gh (S.df.map nv))}:=by
 rw [yW];refine b8 (FU (P:=P) (aj:=aj) (m:=m) h h0 cl hz hn hr hne) λc4 c1 rd e1 p1 h1 f1=>?_;have b2:∀fr,ew (cy P aj (m+2)) (.ref S.i) "prepare" z ⟨fr,os⟩=_:=λfr=>h.DZ (Bb P) (by rfl) fr z ao;have b3:=λfr o=>tm (P:=P) (aj:=aj) (cQ:=cN P aj (m+2)) (z:=z) (fr:=fr) (os:=os) (o:=o) (as:=[]) (jc (Bb P));induction rg using aw with
 |none=>
  induction c1 using CR.casesOn with
  |exc e=>exact absurd p1 id
  |ret v=>
   have p1':v= .none:=p1;subst p1';refine ⟨c4,.none,rd,?_,rfl,h1,f1⟩;have:js (cy P aj (m+2)) (cx P aj (cN P aj (m+2)) bc) z ⟨[("sorter",.ref S.i)],os⟩=af (.ret .none,⟨[("sorter",.ref S.i)],c4⟩):=by
    (delta js;with_reducible repeat' (first|apply b2|apply e1|apply bt|apply bq|apply bE|exact ba|exact bA|(apply gA;apply b3)|with_unfolding_all rfl))
   refine this▸ ?_;rfl
 |some ring=>
  induction c1 using CR.casesOn with
  |ret v=>exact absurd p1 id
  |exc e=>
   refine eu p1 λt i q1 q2 q3 q4=>?_;have d1:=λfr=>args_get (P:=P) (aj:=aj) (cQ:=cN P aj (m+2)) (hd:=false) (z:=z) (fr:=fr) q1;have d2:=λfr=>ya (c:=cx P aj (cN P aj (m+2)) bc) (z:=z) (fr:=fr) (k:=1) (.inr q2) rfl (by exact iK rfl);have d2':∀fr,d0 (cx P aj (cN P aj (m+2)) bc) (.ref t) (.int 1) z ⟨fr,c4⟩=af (.ref i,⟨fr,c4⟩):=d2;have d3:=λfr=>dW (o:=.tuple [.str "ring",.ref i]) rfl z fr c4;refine ⟨c4++ [.tuple [.str "ring",.ref i]],.ref c4.length,rd,?_,⟨c4.length,i,rfl,by simp,bI q3,q4,λq=>absurd (h1.lt _ q) (aW _)⟩,h1.grow _,f1.trans (my.grow _)⟩;have hx:(55:bj)∈(cy P aj (m+2)).ib:=by exact fg
   have:js (cy P aj (m+2)) (cx P aj (cN P aj (m+2)) bc) z ⟨[("sorter",.ref S.i)],os⟩=af (.ret (.ref c4.length),⟨[],c4++ [.tuple [.str "ring",.ref i]]⟩):=by
    (delta js qF;with_reducible repeat' (first|apply b2|apply e1|apply d1|apply d2'|apply d3|apply HL q1 hx|exact br|apply bt|apply bq|apply bE|apply bO|exact ba|exact aE|exact bA|(apply gA;apply b3)|with_unfolding_all rfl))
   refine this▸ ?_;rfl
noncomputable def F4(k:Nat):Sr:=⟨k+1,k,k+2,[],ae,0,0⟩
theorem QM(hz:∀j∈z,j<os.length):cN P aj (n+1) (.top 137) [] os z=af (.ret (.ref (os.length+1)),os++ [.ns (uY (os.length+2) .none 0 0),.inst 137 os.length,.dict []]):=by
 rw [Qq,M5 hz];rfl
theorem QN:gp (os++ [.ns (uY (os.length+2) .none 0 0),.inst 137 os.length,.dict []]) (F4 os.length):=by
 refine ⟨?_,?_,?_,λx hx=>by simp [F4] at hx,λr l h=>by trivial,?_,dy⟩
 ·exact wV 1
 ·exact cK
 ·exact wV 2
 ·simp [idx,F4,Ci]
theorem NR{ps:List Str}(h:gp os S)(h0:S.rd=ae)(hz:Bh z os S)(hs:Sz S (2*ps.length+k+1))(fin:∀n,cN P aj (n+1) (.top 87) (.ref S.i:: .str nm::ps.map .str) os z=nB (xP (cy P aj n) z ⟨[("self",.ref S.i),("node",.str nm),("predecessors",.ref os.length)],os++ [.tuple (ps.map .str)]⟩)):
  ∃os' S',cN P aj (n+3) (.top 87) (.ref S.i:: .str nm::ps.map .str) os z=af (.ret .none,os')/\gp os' S'/\my os S os' S'/\Lk S S' (Cj (S.df.map nv) nm ps)/\Sz S' k:=by
 have h1:=h.grow [.tuple (ps.map .str)];have f1:my os S (os++ [.tuple (ps.map .str)]) S:=my.grow _;have t1:(os++ [jk (ps.map .str)])[os.length]? =af (.tuple (ps.map .str)):=by simp
 have tn:os.length∉idx S:=λq=>absurd (h.lt _ q) (aW _);refine jV (Y4 (P:=P) (aj:=aj) (n:=n) (z:=z) h1 h0 t1 tn (hz.step f1) (nm:=nm) hs) λej os' S' e h2 f2 l2 s2=>?_;exact ⟨os',S',by rw [fin,e];rfl,h2,f1.trans f2,l2,s2⟩
theorem K8{a b k:Int}{s:eP}{r:Option (V × eP)}(h:0<k/\k<1000000)(e:alloc (.range a b k) z s=r):Dl [.int a,.int b,.int k] z s=r:=(Ba h z _).trans e
theorem K9(hk:k<=1000):dN (cx P aj cQ ao) (.type "range") [.int k] z ⟨fr,os⟩=af (.ret (.ref os.length),⟨fr,os++ [.range 0 k 1]⟩):=Ni (by
  have:=dW (o:=.range 0 k 1) (by simp [sizeOk]) z fr os;assumption)
theorem Bu{a b k:Int}(h:os[i]? =af (.range a b k))(hc:0<k/\iM a b k=ao):gI (cx P aj cQ ao) (.ref i) z ⟨fr,os⟩=af (⟨qW a b k,ae⟩,⟨fr,os⟩):=Nl ((aZ (eL h z fr)).trans (Ba hc z _))
theorem src_range(hk:k<=1000)(h:os[i]? =af (.range 0 k 1)):gI (cx P aj cQ ao) (.ref i) z ⟨fr,os⟩=af (⟨(cb 0 k).map λ(i:Nat)=>bD i,ae⟩,⟨fr,os⟩):=by
 have e:d9 0 (k:Int) 1=k:=by
  unfold d9;simp;try lia
 have e1:iM 0 (k:Int) 1=ao:=by
  have f:∀j:Int,0<=j->j<=1000->oN j=ao:=λj h1 h2=>by
   unfold oN;simp;exact ⟨je (by decide) h1,lA h2 (by decide)⟩
  unfold iM;simp [e,f 0 (by decide) (by decide),f 1 (by decide) (by decide),f k (dY _) (jd.mpr hk)]
 refine (Bu h ⟨by decide,e1⟩).trans ?_;have e2:qW 0 (k:Int) 1=(cb 0 k).map λ(i:Nat)=>bD i:=by
  unfold qW;rw [e,vb];simp
 rw [e2]
noncomputable def F6:Option (List Str)->PyData
 |none=>.none
 |some r=>.list (r.map .str)
noncomputable def C3:Option (List Str)->PyData
 |none=>.none
 |some r=>.tuple [.str "ring",.list (r.map .str)]
theorem Bv(f:V->Option PyData)(hf:∀x,f (.str x)=af (.str x)):∀l:List Str,dataL f (l.map .str)=af (l.map .str)
 | []=>rfl
 |x::l=>by
  show (f (.str x)).bind (λd=>(dataL f (l.map .str)).map (d:: ·))=_;rw [hf,Bv f hf l];rfl
theorem Bw(n:Nat)(x:Str):ed os n (.str x)=af (.str x):=by induction n using lE<;>rfl
theorem yb{o:O}(h:os[i]? =af o):ed os (n+1) (.ref i)=Pf (ed os n) o:=by
 show (os[i]?).bind (Pf (ed os n))=_;rw [h];rfl
theorem y6(h:os[i]? =af (.list xs)):ed os (n+1) (.ref i)=(dataL (ed os n) xs).map .list:=yb h
theorem wX(h:os[i]? =af (.tuple xs)):ed os (n+1) (.ref i)=(dataL (ed os n) xs).map .tuple:=yb h
theorem kp(h:os[i]? =af (.list (l.map .str))):ed os (n+1) (.ref i)=af (.list (l.map .str)):=by
 rw [y6 h,Bv _ (Bw n)];rfl
theorem QO{osa:List O}(h:Y5 osa os v rg):ed os 7 v=af (F6 rg):=by
 induction rg using aw with
 |none=>have:v= .none:=h;subst this;rfl
 |some r=>refine cO h λi q'1 hi _=>?_;obtain rfl:=q'1;exact kp hi
theorem Jw{S':Sr}(h:Y7 os S' v rg):ed os 7 v=af (C3 rg):=by
 induction rg using aw with
 |none=>have:v= .none:=h;subst this;rfl
 |some r=>
  refine eu h λt i q'2 h1 h2 _=>?_;obtain rfl:=q'2;refine .trans (wX h1) ?_;simp only [dataL,Bw,kp h2,du,ct];rfl
theorem y7(hk:∀j,j<os.length->os'[j]? =os[j]?):∀{n:Nat}{v:V}{d:PyData},ed os n v=af d->ed os' n v=af d:=by
 intro n;induction n with
 |zero=>exact λh=>h
 |succ n ih=>
  intro v d h;have hL:∀(xs:List V) (ds:List PyData),dataL (ed os n) xs=af ds->dataL (ed os' n) xs=af ds:=by
   intro xs;induction xs with
   |nil=>intro ds h;exact h
   |cons x xs Z4=>
    intro ds h;refine eW h λa h1 h=>lmap h λb h2 h=>?_;show (ed os' n x).bind (λd=>(dataL (ed os' n) xs).map (d:: ·))=_;rw [ih h1,Z4 b h2];exact congrArg af h
  induction v using V.casesOn with
  |ref i=>
   refine eW h λo ho h=>(yb ((hk i (aX ho)).trans ho)).trans ?_;induction o using O.casesOn with
   |list xs=>exact lmap h λds h1 h2=>by show (dataL (ed os' n) xs).map _=_;rw [hL xs ds h1];exact congrArg af h2
   |tuple xs=>exact lmap h λds h1 h2=>by show (dataL (ed os' n) xs).map _=_;rw [hL xs ds h1];exact congrArg af h2
   |_=>exact nn h
  |_=>exact h
section
theorem NS(q:bp x=bp y):x=y:=by injection q
open Classical in
theorem Ee(k:Str):∀xs:List Str,OY (.str k) (xs.map .str)=decide (k∈xs)
 | []=>rfl
 |x::xs=>by
  show (if bp x=bp k then ao else OY (.str k) (xs.map .str))=_;refine (Ee k xs)▸ ?_;by_cases h:x=k
  ·subst h;simp
  ·have h':¬k=x:=λe=>h e.symm;refine (if_neg λe=>h (NS e)).trans ?_;simp [h']
theorem Ef(xs:List Str):(xs.map bp).all isStr=ao:=by
 refine (List.all_map).trans ?_;exact bK.mpr λ_ _=>rfl
theorem in_list{xs:List Str}{k:Str}(h:os[i]? =af (.list (xs.map .str))):Pg c (.str k) (.ref i) z ⟨fr,os⟩=af (decide (k∈xs),⟨fr,os⟩):=by
 refine (aZ (eL h z fr)).trans ((Ba (by rw [Ef];rfl) z _).trans ?_);rw [Ee];rfl
open Classical in
theorem F7:∀{l r:List Str}(k:Nat),y∈l->∃j,posOf (.str y) ((l++r).map .str) k=af (k+j)/\j<l.length/\l.drop j=l.dropWhile (λa=>decide (a≠y))
 |a::l,r,k,h=>by
  by_cases q:a=y
  ·subst q;refine ⟨0,?_,by exact lS _,by simp⟩;show (if bp a=bp a then af k else _)=_;refine (if_pos rfl).trans ?_;rfl
  ·have hl:y∈l:=(jJ h).resolve_left λe=>q e.symm;refine cO (F7 (r:=r) (k+1) hl) λj h1 h2 h3=>?_;refine ⟨j+1,?_,by simp;omega,?_⟩
   ·show (if bp a=bp y then af k else posOf (.str y) ((l++r).map .str) (k+1))=_;(refine (if_neg λe=>q (NS e)).trans ?_;refine (h1).trans ?_);congr 1;exact aN _ _ _
   ·rw [vW,h3,kK,if_pos (by simpa using q)]
theorem QP{xs:List Str}(h:os[i]? =af (.list (xs.map .str)))(hp:posOf (.str y) (xs.map .str) 0=af j):fh c "list.index" (.ref i) [.str y] z ⟨fr,os⟩=af (.int j,⟨fr,os⟩):=by
 exact Qs.trans ((aZ (eL h z fr)).trans ((Ba (by rw [Ef];rfl) z _).trans (ff (by rw [hp];rfl) z _)))
open Classical in
theorem add_int(a b:Int):binC c .Add (.int a) (.int b) z ⟨fr,os⟩=af (.int (a+b),⟨fr,os⟩):=rfl
theorem Ah{a b:V}{d:PyData}(h1:ed os 8 a=af d)(h2:ed os 8 b=af d)(hc:d.canLay0=ao)(hd:d.depth<=20):EJ os a b=af ao:=by
 refine (show EJ os a b=(ed os 8 a).bind λda=>(ed os 8 b).bind λdb=>if da.canLay0=ao/\db.canLay0=ao/\da.depth<=20 then af (mQ da db) else ae from rfl).trans ?_;rw [h1,h2,ct,ct,if_pos ⟨hc,hc,hd⟩,SeqAt.eqv_refl d hc]
theorem rV:∀{ws:List Str},(∀x∈ws,eO x=ao)->ix (ws.map .str)=ao
 | [],_=>rfl
 |x::ws,h=>by
  simp only [bx,ix,BU];rw [h x (fg ..),rV λy hy=>h y (i8 _ hy)];rfl
theorem mO:∀ws:List Str,dJ (ws.map .str)=0
 | []=>rfl
 |x::ws=>by
  have:dJ (xm x::ws.map .str)=max 0 (dJ (ws.map .str)):=by
   first|rfl|simp [dJ,Ez]
  rw [bx,this,mO ws];rfl
theorem eq_nil{ws:List Str}(h1:os[i]? =af (.list (ws.map .str)))(h2:os[j]? =af (.list []))(hw:∀x∈ws,eO x=ao):EJ os (.ref i) (.ref j)=af (decide (ws= [])):=by
 have d1:=kp (n:=7) h1;have d2:=kp (n:=7) (l:=[]) h2;simp only [EJ,d1,d2];have l1:(GC (ws.map .str)).canLay0=ao:=by simp only [BU];exact rV hw
 have l2:(GC (ws.map .str)).depth<=20:=by simp only [Ez];rw [mO];decide
 refine (if_pos ⟨l1,by rfl,l2⟩).trans ?_;induction ws using aC<;>rfl
end
noncomputable def iH(c:Nat):Str:=⟨#[c]⟩
noncomputable def lets(w:Str):List Str:=w.cps.toList.map iH
def Sg(x:Str):Prop:=∃c,c<1114112/\x=iH c
noncomputable def cX:List Str->Str
 | []=>⟨#[]⟩
 |a::r=>a++cX r
noncomputable def bW:List Str:=[iH 97,iH 98,iH 99,iH 100]
section
variable{s:eP}
theorem F9(w:Str):iR w=(lets w).map .str:=by
 unfold iR lets;rw [dk];rfl
theorem NT(l:List Str):zy (l.map .str)=af (cX l):=by
 induction l with
 |nil=>rfl
 |cons a l ih=>
  show (zy (l.map .str)).map (λt=>a++t)=_;rw [ih];rfl
theorem Jx(a b:Str):(a++b).cps.toList=a.cps.toList++b.cps.toList:=by
 show (a.cps++b.cps).toList=_;exact oj
theorem tr(h:∀x∈l,Sg x):lets (cX l)=l:=by
 induction l with
 |nil=>rfl
 |cons a l ih=>
  refine aR (h a (fg ..)) λk _ q'1=>?_;obtain rfl:=q'1;show ((iH k++cX l).cps.toList).map iH=_;rw [Jx,cw];show iH k::lets (cX l)=_;exact congrArg _ (ih λx hx=>h x (i8 _ hx))
theorem rW(h:∀x∈l,Sg x):(cX l).cps.size=l.length:=by
 have e:=congrArg ve (tr h);unfold lets at e;rw [aH] at e;exact e
theorem Eg(l m:List Str):cX (l++m)=cX l++cX m:=by
 induction l with
 |nil=>
  show cX m=(⟨#[]⟩:Str)++cX m;show cX m=⟨#[]++(cX m).cps⟩;exact (pX)▸rfl
 |cons a l ih=>
  show a++cX (l++m)=(a++cX l)++cX m;rw [ih];show (⟨a.cps++((cX l).cps++(cX m).cps)⟩:Str)=⟨(a.cps++(cX l).cps)++(cX m).cps⟩;exact (xa)▸rfl
theorem Ai(x:Str):cX [x]=x:=by
 show (⟨x.cps++ #[]⟩:Str)=x;exact congrArg _ (pW)
theorem Jy{a:Nat}(h:iH a=iH b):a=b:=by injection h with h;injection h with h;injection h
theorem WG(hx:Sg x)(hL:∀y∈L,Sg y):Pg c (.str x) (.str (cX L)) z s=af (decide (x∈L),s):=by
 refine aR hx λk _ q'2=>?_;obtain rfl:=q'2;show af (!(fk (cX L) (iH k) 0 (cX L).length 1).isEmpty,s)=_;rw [show iH k=⟨#[k]⟩ from rfl,StrLaws.found_one];congr 2;refine decide_eq_decide.mpr ?_;constructor
 ·intro h;have:iH k∈lets (cX L):=aT.mpr ⟨k,h,rfl⟩
  rwa [tr hL] at this
 ·intro h;rw [←tr hL] at h;refine aR (aT.mp h) λj hj e=>?_;exact Jy e▸hj
theorem qH(hx:Sg x)(hL:∀y∈L,Sg y):cmpC c .In (.str x) (.str (cX L)) z s=af (.bool (decide (x∈L)),s):=th (WG hx hL)
theorem nG(h:x∈bW):Sg x:=by
 simp only [bW,aY,aU,or_false] at h;rcases h with rfl|rfl|rfl|rfl
 ·exact ⟨97,by decide,rfl⟩
 ·exact ⟨98,by decide,rfl⟩
 ·exact ⟨99,by decide,rfl⟩
 ·exact ⟨100,by decide,rfl⟩
theorem NU:ah "abcd" =cX bW:=by kernel_rfl
theorem Eh:ah "" =cX []:=by kernel_rfl
theorem Bx(hx:Sg x):cmpC c .In (.str x) (.str "abcd") z s=af (.bool (decide (x∈bW)),s):=by
 refine NU▸ ?_;exact qH hx λy=>nG
theorem Sa(hL:∀y∈L,Sg y)(hk:L[k]? =af x)(hl:L.length<=1000000):d0 c (.str (cX L)) (.int k) z s=af (.str x,s):=by
 have hlt:k<L.length:=(cP.mp hk).1;have e:(cX L).cps[k]?.map (λx=>bp ⟨#[x]⟩)=af (bp x):=by
  have:=congrArg (λl=>l[k]?) (tr hL);simp only [lets,eg,cS,hk] at this;cases q:(cX L).cps[k]? with
  |none=>rw [q] at this;exact nn this
  |some j=>
   rw [q] at this;injection this with this
   show af (bp (iH j))=_;exact (this)▸rfl
 have hsz:(cX L).cps.size=L.length:=rW hL;exact ff (o:=(qV (k:Int) (cX L).cps.size).bind λj=>((cX L).cps[j]?).map λx=>bp ⟨#[x]⟩) (by refine (C2 (hsz▸hlt) (hsz▸hl))▸ ?_;exact e) z s
theorem QQ(hk:bW[k]? =af x):d0 c (.str "abcd") (.int k) z s=af (.str x,s):=by
 refine NU▸ ?_;exact Sa (λy=>nG) hk (by decide)
theorem y8:Ax "index" =af "str.index" :=by kernel_rfl
theorem NW:fh c "str.index" o as z s=Dj o as z s:=by kernel_rfl
theorem Uo(hk:bW[k]? =af x):(fk (cX bW) x 0 (cX bW).length 1).head?=af k:=by
 have hlt:k<4:=(cP.mp hk).1;rcases k with _|_|_|_|k
 ·injection hk with hk;subst hk;kernel_rfl
 ·injection hk with hk;subst hk;kernel_rfl
 ·injection hk with hk;subst hk;kernel_rfl
 ·injection hk with hk;subst hk;kernel_rfl
 ·exact absurd hlt (cC.mpr (dH 4 _))
theorem By(hk:bW[k]? =af x):fh c "str.index" (.str "abcd") [.str x] z s=af (.int k,s):=by
 refine NU▸ ?_;refine NW.trans ?_;exact ff (o:=(fk (cX bW) x 0 (cX bW).length 1).head?.map λ(i:Nat)=>bD (i:Int)) (by rw [Uo hk];rfl) z s
theorem QR{s t:Str}(hs:s=⟨#[]⟩)(h:os[i]? =af (.list xs))(hj:zy xs=af t)(ht:t.cps.size<=1000000):IG c (.str s) [.ref i] z ⟨fr,os⟩=af (.str t,⟨fr,os⟩):=by
 subst hs;exact (Ba (a:=el c (.ref i)>>=λob=>e9 ob.jX λxs=>lift (zy xs)>>=λt=>if t.cps.size<=1000000 then aA (bp t) else fail) (b:=fail) (p:=(⟨#[]⟩:Str)=⟨#[]⟩) rfl z _).trans ((aZ (eL h z fr)).trans ((aZ (ff hj z _)).trans (Ba ht z _)))
theorem y9(h:os[i]? =af (.list (l.map .str)))(hl:(cX l).cps.size<=1000000):fh c "str.join" (.str "") [.ref i] z ⟨fr,os⟩=af (.str (cX l),⟨fr,os⟩):=
 Ue.trans (QR rfl h (NT _) hl)
theorem qI(hL:∀y∈L,Sg y):gI (cx P aj cQ ao) (.str (cX L)) z ⟨fr,os⟩=af (⟨L.map .str,ae⟩,⟨fr,os⟩):=by
 have e:iR (cX L)=L.map .str:=by rw [F9,tr hL]
 refine (e).symm▸ ?_;rfl
theorem NX:gI (cx P aj cQ ao) (.str "abcd") z ⟨fr,os⟩=af (⟨bW.map .str,ae⟩,⟨fr,os⟩):=by
 refine NU▸ ?_;exact qI λy=>nG
theorem gV{acc:Nat}(ha:os[acc]? =af (.list xs))(hz:acc∉z)(hl:xs.length+1<=1000000)(v:V)(fr:eB):i4 c acc v z ⟨fr,os⟩=af ((),⟨fr,os.set acc (.list (xs++ [v]))⟩):=(aZ (eL ha z fr)).trans (lR (o:=.list (xs++ [v])) ha (decide_eq_true (by refine aq▸ ?_;exact hl)) hz fr)
theorem La{t:Nat}(h:os[t]? =af (.list xs)):zA (cx P aj cQ ao) (.ref t) z ⟨fr,os⟩=af (xs,⟨fr,os⟩):=aZ (eL h z fr)
theorem H2{t:Nat}(h:os[t]? =af (.tuple xs)):zA (cx P aj cQ ao) (.ref t) z ⟨fr,os⟩=af (xs,⟨fr,os⟩):=aZ (eL h z fr)
theorem iV{iv:α->V}{f:α->List V}{l:List α}(hb:∀uq i src,body uq i src=dh src.fz (fj (turn uq i) src.items))
  (hz:∀j∈z,j<os.length) (hf:∀j,fz=af j->j<os.length) (hN:(l.flatMap f).length<=1000000)
  (step:∀z':List Nat,(∀j∈z',j<os.length)->∀a∈l,∀iy c4 xs,Hi os.length os c4->c4[os.length]? =af (.list xs)->xs.length+(f a).length<=1000000->
   ∃kM c7,turn (ups fr) os.length (iv a) z' ⟨iy,c4⟩=af ((),⟨kM,c7⟩)/\c7[os.length]? =af (.list (xs++f a))/\Hi os.length os c7):
  ∃os',fc ups body ⟨l.map iv,fz⟩ z ⟨fr,os⟩=af (.ref os.length,⟨fr,os'⟩)/\os'[os.length]? =af (.list (l.flatMap f))/\Hi os.length os os':=by
 have hz':∀j∈fz.toList++z,j<os.length:=λj hj=>by
  rcases aG.mp hj with hj|hj
  ·exact hf j (yD.mp hj)
  ·exact hz j hj
 have key:∀(m:List α) (xs:List V) (iy:eB) (c4:List O),(∀a∈m,a∈l)->xs.length+(m.flatMap f).length<=1000000->Hi os.length os c4->c4[os.length]? =af (.list xs)->
   ∃kM c7,fj (turn (ups fr) os.length) (m.map iv) (fz.toList++z) ⟨iy,c4⟩=af ((),⟨kM,c7⟩)/\c7[os.length]? =af (.list (xs++m.flatMap f))/\Hi os.length os c7:=by
  intro m;induction m with
  |nil=>exact λxs iy c4 _ _ h1 h2=>⟨iy,c4,rfl,by rw [ky,bB];exact h2,h1⟩
  |cons a m ih=>
   intro xs iy c4 hm hl h1 h2;rw [bz,aq] at hl;refine ck (step _ hz' a (hm a (fg ..)) iy c4 xs h1 h2 (ai (bF (aF _ _) _) hl)) λkM c7 e1 g1 g2=>?_;refine ck (ih (xs++f a) kM c7 (λb hb=>hm b (i8 _ hb)) (by rw [aq];exact ai (ar (dC _ _ _)) hl) g2 g1) λLp iI e2 g3 g4=>?_;refine ⟨Lp,iI,?_,by rw [bz,←aQ];exact g3,g4⟩;exact (aZ (m:=turn (ups fr) os.length (iv a)) e1).trans e2
 have h0:(os++ [cM []])[os.length]? =af (.list []):=cK;refine ck (key l [] [] (os++ [.list []]) (λ_ h=>h) (by simpa using hN) (Hi.grow (ax _) _) h0) λkM c7 e g1 g2=>?_;refine ⟨c7,?_,g1,g2⟩;refine xV (ej:=kM) rfl ?_;rw [hb];exact e
end
structure Tx(t:Str->List Str):Prop where
 sg:∀x∈bW,∀y∈t x,Sg y
 len:∀x∈bW,(t x).length<=9
def Bz(t:Str->List Str):List V:=bW.map λx=>bp (cX (t x))
theorem Ga(hk:bW[k]? =af x):(Bz t)[k]? =af (.str (cX (t x))):=by
 unfold Bz;rw [eg,hk];rfl
theorem NY(h:x∈bW):∃k:Nat,bW[k]? =af x:=uk.mp h
theorem BA:(Bz t).length<=1000000:=by unfold Bz;rw [aH];decide
theorem wY:dN (cx P aj cQ ao) (.type "range") [.int 4] z ⟨fr,os⟩=af (.ret (.ref os.length),⟨fr,os++ [.range 0 4 1]⟩):=K9 (k:=4) (by decide)
theorem H3(h:os[i]? =af (.range 0 4 1)):gI (cx P aj cQ ao) (.ref i) z ⟨fr,os⟩=af (⟨(cb 0 4).map λ(i:Nat)=>bD i,ae⟩,⟨fr,os⟩):=src_range (k:=4) (by decide) h
def O5(t:Str->List Str)(a:Str):Str:=if a∈bW then cX (t a) else a
theorem NZ(l:List Str):cX (l.map (O5 t))=cX (u6 bW t l):=by
 induction l with
 |nil=>rfl
 |cons a l ih=>
  show O5 t a++cX (l.map (O5 t))=cX ((if a∈bW then t a else [a])++u6 bW t l);rw [Eg,ih];congr 1;unfold O5;by_cases h:a∈bW
  ·rw [if_pos h,if_pos h]
  ·rw [if_neg h,if_neg h,Ai]
theorem H4(h:Tx t){s:List Str}(hs:∀y∈s,Sg y):∀y∈u6 bW t s,Sg y:=λy hy=>by
 refine aR (cI.mp hy) λa ha hy=>?_;by_cases q:a∈bW
 ·rw [if_pos q] at hy;exact h.sg a q y hy
 ·rw [if_neg q,aL] at hy;subst hy;exact hs y ha
theorem Ei(h:Tx t)(s:List Str):(u6 bW t s).length<=9*s.length:=by
 induction s with
 |nil=>exact ax _
 |cons a s ih=>
  show ((if a∈bW then t a else [a])++u6 bW t s).length<=_;rw [aq,bb];have:(if a∈bW then t a else [a]).length<=9:=by
   by_cases q:a∈bW
   ·rw [if_pos q];exact h.len a q
   ·rw [if_neg q];exact dH 1 8
  exact VC this ih
theorem pM(f:α->β)(l:List α):(l.flatMap λa=>[f a]).length=l.length:=by
 induction l with
 |nil=>rfl
 |cons a l ih=>rw [bz,aq,ih,bb,bb];exact cD _ _
theorem pN(f:α->β)(l:List α):(l.flatMap λa=>[f a])=l.map f:=by
 induction l with
 |nil=>rfl
 |cons a l ih=>rw [bz,ih];rfl
theorem qJ(p:α->Prop)[DecidablePred p](f:α->β)(l:List α):(l.flatMap λa=>if p a then [f a] else [])=(l.filter λa=>decide (p a)).map f:=by
 induction l with
 |nil=>rfl
 |cons a l ih=>
  rw [bz,ih];by_cases h:p a
  ·rw [if_pos h,cu (by simpa using h)];rfl
  ·rw [if_neg h,b6 (by simpa using h)];rfl
theorem N0(h:Tx t)(oS:os[tx]? =af (.list (Bz t)))(hz:∀j∈z,j<os.length)(hf:getF fr "texts" =af (.ref tx)){s:List Str}(hs:∀y∈s,Sg y)(hl:s.length<=100000):
  ∃os',fc (λfr=>fe [(ah "texts",getF fr "texts")]) (λuq i src=>nS (cx P aj cQ ao) uq i src) ⟨s.map .str,ae⟩ z ⟨fr,os⟩=af (.ref os.length,⟨fr,os'⟩)/\os'[os.length]? =af (.list ((s.map (O5 t)).map .str))/\Hi os.length os os':=by
 refine cO (iV (fr:=fr) (os:=os) (z:=z) (ups:=λfr=>fe [(ah "texts",getF fr "texts")]) (body:=λuq i src=>nS (cx P aj cQ ao) uq i src) (turn:=λuq i v=>kY (cx P aj cQ ao) uq i v) (fz:=none) (iv:=bp) (f:=λa=>[bp (O5 t a)]) (l:=s) (λ_ _ _=>rfl) hz (λ_ h=>by injection h) (by rw [pM];exact ai hl (ak rfl))
  (λz' hz' a ha iy c4 xs h1 h2 hN=>by
   have ht1:=(h1.keep tx (aX oS)).trans oS;have hacc:os.length∉z':=λq=>aW _ (hz' _ q);have c1:=λ(c:Cx) (s:eP)=>Bx (c:=c) (z:=z') (s:=s) (hs a ha);have hu:getF (fe [(ah "texts",getF fr "texts")]) "texts" =af (.ref tx):=by rw [hf];exact ba
   have p1:=λ(c:Cx) fr=>gV (c:=c) h2 hacc hN (.str (O5 t a)) fr;refine ⟨putF iy "sign" (.str a),c4.set os.length (.list (xs++ [.str (O5 t a)])),?_,dA h2,h1.trans (Hi.set (ax _) _)⟩;by_cases q:a∈bW
   ·obtain ⟨k,hk⟩:=NY q;rw [decide_eq_true q] at c1;have m1:=λ(c:Cx) fr=>ru (c:=c) (z:=z') (fr:=fr) (os:=c4) (x:=ah "abcd") y8;have s1:=λ(c:Cx) (s:eP)=>By (c:=c) (z:=z') (s:=s) hk;have l2:=λfr=>iL (z:=z') (s:=⟨fr,c4⟩) hu;have i1:=λ(c:Cx) fr=>ya (c:=c) (z:=z') (fr:=fr) (.inl ht1) (Ga (t:=t) hk) BA;have e2:O5 t a=cX (t a):=if_pos q;rw [e2] at p1 ⊢;(delta kY;with_reducible repeat' (first|apply c1|apply m1|apply s1|apply l2|apply i1|apply p1|exact dR _ _ _|exact br|apply bt|apply bq|apply bE|apply bO|exact aE|apply av (by decide)|exact ba|apply bg (by decide)|exact aI|apply aO|exact bA|(apply b7;apply bX)|(apply bV;focus rfl)|rfl))
   ·rw [decide_eq_false q] at c1;have e2:O5 t a=a:=if_neg q;rw [e2] at p1 ⊢;(delta kY;with_reducible repeat' (first|apply c1|apply p1|(apply ite_no;focus exact bh)|exact dR _ _ _|exact br|apply bt|apply bq|apply bE|apply bO|exact aE|apply av (by decide)|exact ba|apply bg (by decide)|exact aI|apply aO|exact bA|(apply b7;apply bX)|(apply bV;focus rfl)|rfl)))) λos' e g1 g2=>?_
 exact ⟨os',e,by rw [g1,pN,dk];rfl,g2⟩
theorem N4(hz:∀j∈z,j<os.length){s:List Str}(hs:∀y∈s,Sg y)(hl:s.length<=100000):
  ∃os',fc (λfr=>fe []) (λuq i src=>nT (cx P aj cQ ao) uq i src) ⟨s.map .str,ae⟩ z ⟨fr,os⟩=af (.ref os.length,⟨fr,os'⟩)/\os'[os.length]? =af (.list ((s.filter λa=>decide (a∈bW)).map .str))/\Hi os.length os os':=by
 have hN:(s.flatMap λa=>if a∈bW then [bp a] else []).length<=1000000:=by
  rw [qJ,aH];have:=cJ (λa=>decide (a∈bW)) s;exact ai (ai this hl) (ak rfl)
 refine cO (iV (fr:=fr) (os:=os) (z:=z) (ups:=λfr=>fe []) (body:=λuq i src=>nT (cx P aj cQ ao) uq i src) (turn:=λuq i v=>kZ (cx P aj cQ ao) uq i v) (fz:=none) (iv:=bp) (f:=λa=>if a∈bW then [bp a] else []) (l:=s) (λ_ _ _=>rfl) hz (λ_ h=>by injection h) hN
  (λz' hz' a ha iy c4 xs h1 h2 hN=>by
   have hacc:os.length∉z':=λq=>aW _ (hz' _ q);have c1:=λ(c:Cx) (s:eP)=>Bx (c:=c) (z:=z') (s:=s) (hs a ha);by_cases q:a∈bW
   ·rw [decide_eq_true q] at c1;simp only [if_pos q] at hN ⊢;have p1:=λ(c:Cx) fr=>gV (c:=c) h2 hacc hN (.str a) fr;refine ⟨putF iy "sign" (.str a),c4.set os.length (.list (xs++ [.str a])),?_,dA h2,h1.trans (Hi.set (ax _) _)⟩;(delta kZ;with_reducible repeat' (first|apply c1|apply p1|exact dR _ _ _|exact br|apply bt|apply bq|apply bE|apply bO|exact aE|apply av (by decide)|exact ba|apply bg (by decide)|exact aI|apply aO|exact bA|(apply b7;apply bX)|(apply bV;focus rfl)|rfl))
   ·rw [decide_eq_false q] at c1;simp only [if_neg q,bB] at hN ⊢;refine ⟨putF iy "sign" (.str a),c4,?_,h2,h1⟩;(delta kZ;with_reducible repeat' (first|apply c1|(apply ite_no;focus exact bh)|exact dR _ _ _|exact br|apply bt|apply bq|apply bE|apply bO|exact aE|apply av (by decide)|exact ba|apply bg (by decide)|exact aI|apply aO|exact bA|(apply b7;apply bX)|(apply bV;focus rfl)|rfl)))) λos' e g1 g2=>?_
 exact ⟨os',e,by rw [g1,qJ],g2⟩
theorem N7(h:Sg x):eO x=ao:=by
 refine aR h λc hc q'1=>?_;obtain rfl:=q'1;show (#[c]:Array Nat).all (λc=>decide (c<0x110000))=ao;simpa using hc
theorem Ej(h:∀x∈l,Sg x):∀x∈l,eO x=ao:=λx hx=>N7 (h x hx)
theorem N8(h:Tx t)(oS:os[tx]? =af (.list (Bz t)))(hz:∀j∈z,j<os.length)(hf:getF fr "texts" =af (.ref tx)){s:List Str}(hs:∀y∈s,Sg y)(hl:s.length<=10000)(YD:getF fr "text" =af (.str (cX s))):
  ∃ej os' r,fJ (cx P aj cQ ao) (.int k) z ⟨fr,os⟩=af (if (u6 bW t s).filter (λc=>decide (c∈bW))= [] then Fl.ret (.ref r) else .next,⟨ej,os'⟩)/\Hi os.length os os'/\
   ((u6 bW t s).filter (λc=>decide (c∈bW))= []->os'[r]? =af (.tuple [.int k,.str (cX (u6 bW t s))]))/\getF ej "texts" =af (.ref tx)/\getF ej "text" =af (.str (cX (u6 bW t s))):=by
 have hs':=H4 h hs;have hl':=Ei h s;have s1:=λfr=>qI (P:=P) (aj:=aj) (cQ:=cQ) (z:=z) (fr:=fr) (os:=os) hs;refine cO (N0 (P:=P) (aj:=aj) (cQ:=cQ) (fr:=putF fr "times" (.int k)) h oS hz (av (by decide) hf) hs (ai hl (ak rfl))) λc4 e1 g1 i1=>?_;have m1:=λ(c:Cx) fr=>ru (c:=c) (z:=z) (fr:=fr) (os:=os) (x:=ah "") vH;have j1:=λ(c:Cx) fr=>y9 (c:=c) (z:=z) (fr:=fr) g1 (by rw [NZ,rW hs'];exact qk (ai hl' (c9 9 hl)) rfl);rw [NZ] at j1;have hz1:∀j∈z,j<c4.length:=λj hj=>ag (hz j hj) i1.len;have s2:=λfr=>qI (P:=P) (aj:=aj) (cQ:=cQ) (z:=z) (fr:=fr) (os:=c4) hs';refine cO (N4 (P:=P) (aj:=aj) (cQ:=cQ) (fr:=putF (putF fr "times" (.int k)) "text" (.str (cX (u6 bW t s)))) hz1 hs' (qk (ai hl' (c9 9 hl)) rfl)) λc7 e2 g2 i2=>?_;have a1:=λfr=>dW (o:=.list []) rfl z fr c7;have q1:=eq_nil (os:=c7++ [.list []]) (bI g2) cK (Ej λx hx=>hs' x (bL.mp hx).1);have hi:Hi os.length os (c7++ [.list []]):=(i1.trans ⟨i2.len,λj hj=>i2.keep j (ag hj i1.len)⟩).trans (Hi.grow (ai i1.len i2.len) _);by_cases q:(u6 bW t s).filter (λc=>decide (c∈bW))= []
 ·rw [decide_eq_true q] at q1;simp only [if_pos q];have a2:=λfr=>dW (o:=.tuple [.int k,.str (cX (u6 bW t s))]) rfl z fr (c7++ [.list []]);refine ⟨putF (putF fr "times" (.int k)) "text" (.str (cX (u6 bW t s))),c7++ [.list []]++ [.tuple [.int k,.str (cX (u6 bW t s))]],(c7++ [cM []]).length,?_,hi.trans (Hi.grow hi.len _),λ_=>cK,av (by decide) (av (by decide) hf),aE⟩;(delta fJ;with_reducible repeat' (first|apply YD|apply s1|apply e1|apply m1|apply j1|apply s2|apply e2|apply a1|(apply kG;exact q1)|apply a2|exact dR _ _ _|exact br|apply bt|apply bq|apply bE|apply bO|exact aE|apply av (by decide)|exact ba|apply bg (by decide)|exact aI|apply aO|exact bA|(apply b7;apply bX)|(apply bV;focus rfl)|rfl))
 ·rw [decide_eq_false q] at q1;simp only [if_neg q];refine ⟨putF (putF fr "times" (.int k)) "text" (.str (cX (u6 bW t s))),c7++ [.list []],0,?_,hi,λq'=>absurd q' q,av (by decide) (av (by decide) hf),aE⟩;(delta fJ;with_reducible repeat' (first|apply YD|apply s1|apply e1|apply m1|apply j1|apply s2|apply e2|apply a1|(apply kG;exact q1)|(apply ite_no;focus exact bh)|exact dR _ _ _|exact br|apply bt|apply bq|apply bE|apply bO|exact aE|apply av (by decide)|exact ba|apply bg (by decide)|exact aI|apply aO|exact bA|(apply b7;apply bX)|(apply bV;focus rfl)|rfl))
theorem Lc(h:Tx t)(hx:x∈bW)(hz:∀j∈z,j<os.length)(oS:os[tx]? =af (.list (Bz t))):∀(n k:Nat),k+n=4->∀(fr:eB) (c4:List O),Hi os.length os c4->getF fr "texts" =af (.ref tx)->getF fr "text" =af (.str (cX (ub bW t k x)))->(∀y∈ub bW t k x,Sg y)->(ub bW t k x).length<=9^k->
  ∃ej os' r,fQ (λv=>fJ (cx P aj cQ ao) v) ((cb k n).map λ(i:Nat)=>bD i) z ⟨fr,c4⟩=af (if (jP bW t x n k).1<4 then Fl.ret (.ref r) else .next,⟨ej,os'⟩)/\Hi os.length os os'/\
   ((jP bW t x n k).1<4->os'[r]? =af (.tuple [.int (jP bW t x n k).1,.str (cX (jP bW t x n k).2)])):=by
 intro n;induction n with
 |zero=>
  intro k hk fr c4 hi _ _ _ _;exact ⟨fr,c4,0,rfl,hi,λq=>absurd q (by show¬(4<4);decide)⟩
 |succ n ih=>
  intro k hk fr c4 hi hf YD hsg hln;have hz1:∀j∈z,j<c4.length:=λj hj=>ag (hz j hj) hi.len;have OQ:=(hi.keep tx (aX oS)).trans oS;have hb:9^k<=9^4:=Nat.pow_le_pow_right (by decide) (cL hk);refine jV (N8 (P:=P) (aj:=aj) (cQ:=cQ) (k:=k) h OQ hz1 hf hsg (qk (ai hln hb) rfl) YD) λkM c7 r e h2 g f1 f2=>?_;rw [Ec hx] at e g f2;have hi2:Hi os.length os c7:=hi.trans ⟨h2.len,λj hj=>h2.keep j (ag hj hi.len)⟩;have Z5:∀y∈ub bW t (k+1) x,Sg y:=by rw [←Ec hx];exact H4 h hsg
  have Z6:(ub bW t (k+1) x).length<=9^(k+1):=by
   rw [←Ec hx];have:=Ei h (ub bW t k x);rw [Nat.pow_succ];exact ai this (ai (c9 9 hln) (ar (Nat.mul_comm _ _)))
  have ev:=NO (na:=bW) (t:=t) (k+1) x hx;have eo:jP bW t x (n+1) k=if u5 bW t (k+1) x=ao then (k,ub bW t (k+1) x) else jP bW t x n (k+1):=rfl
  rw [eo,kr,bx];by_cases q:u5 bW t (k+1) x=ao
  ·simp only [if_pos q];rw [if_pos (ev.mpr q)] at e;refine ⟨kM,c7,r,?_,hi2,λ_=>g (ev.mpr q)⟩;rw [if_pos (show k<4 from Vk hk)];exact Jo (turn:=λv=>fJ (cx P aj cQ ao) v) e
  ·simp only [if_neg q];rw [if_neg λq'=>q (ev.mp q')] at e;refine jo (ih (k+1) ((aN _ _ _).trans hk) kM c7 hi2 f1 f2 Z5 Z6) λLp iI r3 e3 h3 g3=>?_;exact ⟨Lp,iI,r3,(ig (turn:=λv=>fJ (cx P aj cQ ao) v) e).trans e3,h3,g3⟩
theorem H5(h:Tx t)(hx:x∈bW)(hz:∀j∈z,j<os.length)(oS:os[tx]? =af (.list (Bz t))):
  ∃os' r,cN P aj (n+1) (.top 239) [.ref tx,.str x] os z=af (.ret (.ref r),os')/\Hi os.length os os'/\os'[r]? =af (.tuple [.int (jP bW t x 4 0).1,.str (cX (jP bW t x 4 0).2)]):=by
 rw [A8];have r1:=λfr=>wY (P:=P) (aj:=aj) (cQ:=cN P aj n) (z:=z) (fr:=fr) (os:=os);have hi0:Hi os.length os (os++ [.range 0 4 1]):=Hi.grow (ax _) _;have s1:=λfr=>H3 (P:=P) (aj:=aj) (cQ:=cN P aj n) (z:=z) (fr:=fr) (cK:(os++ [dB 0 4 1])[os.length]? =af (.range 0 4 1));refine jo (Lc (P:=P) (aj:=aj) (cQ:=cN P aj n) (z:=z) h hx hz oS 4 0 rfl [(ah "texts",.ref tx),(ah "name",.str x),(ah "text",.str x)] _ hi0 ba (by
  rw [show cX (ub bW t 0 x)=x from Ai x];exact bg (by decide) (bg (by decide) ba)) (λy hy=>by
  have:y=x:=aL.mp hy;subst this;exact nG hx) (ax _)) λkM c7 r e h2 g=>?_
 have e':dh ae (fQ (λv=>fJ (cy P aj n) v) ((cb 0 4).map λ(i:Nat)=>bD i)) z ⟨[("texts",.ref tx),("name",.str x),("text",.str x)],os++ [.range 0 4 1]⟩=_:=e;by_cases q:(jP bW t x 4 0).1<4
 ·rw [if_pos q] at e';refine ⟨c7,r,gu (fr:=kM) ?_,h2,g q⟩;(delta q9;with_reducible repeat' (first|apply r1|apply s1|apply e'|apply eZ|exact oB|(apply fL (by decide))|exact dR _ _ _|exact br|apply bt|apply bq|apply bE|apply bO|exact aE|apply av (by decide)|exact ba|apply bg (by decide)|exact aI|apply aO|exact bA|(apply b7;apply bX)|(apply bV;focus rfl)|rfl))
 ·rw [if_neg q] at e';have hv:jP bW t x 4 0=(4,[]):=by
   rcases vK (na:=bW) (t:=t) x 4 0 rfl rfl with ⟨j,_,h2,_,_,h5⟩|⟨_,h1⟩
   ·rw [h5] at q;exact absurd h2 q
   ·exact h1
  have a1:=λfr=>dW (o:=.tuple [.int 4,.str ""]) rfl z fr c7;refine ⟨c7++ [.tuple [.int 4,.str ""]],c7.length,gu (fr:=kM) ?_,h2.trans (Hi.grow h2.len _),by rw [hv,cK,Eh];rfl⟩;(delta q9;with_reducible repeat' (first|apply r1|apply s1|apply e'|apply a1|apply eZ|exact oB|(apply fL (by decide))|exact dR _ _ _|exact br|apply bt|apply bq|apply bE|apply bO|exact aE|apply av (by decide)|exact ba|apply bg (by decide)|exact aI|apply aO|exact bA|(apply b7;apply bX)|(apply bV;focus rfl)|rfl))
def Jz:List (Nat × Str):=[(0,iH 97),(1,iH 98),(2,iH 99),(3,iH 100)]
theorem Ek:∀p∈Jz,bW[p.1]? =af p.2:=by
 intro p hp;simp only [Jz,aY,aU,or_false] at hp;rcases hp with rfl|rfl|rfl|rfl<;>rfl
theorem Hi.Lq{Et:List O}(a:Hi os.length os os')(b:Hi os'.length os' Et):Hi os.length os Et:=a.trans ⟨b.len,λj hj=>b.keep j (ag hj a.len)⟩
theorem Hi.at{o:O}(h:Hi b os os')(hi:i<b)(e:os[i]? =af o):os'[i]? =af o:=(h.keep i hi).trans e
theorem vM(p:Str->Prop)[DecidablePred p](hb:∀uq i src,body uq i src=dh src.fz (fj (turn uq i) src.items))
  (hz:∀j∈z,j<os.length) (hf:∀j,fz=af j->j<os.length) (hl:l.length<=100000)
  (yes:∀z':List Nat,∀a∈l,p a->∀iy c4 c7,(∀(c:Cx) fr,i4 c os.length (.str a) z' ⟨fr,c4⟩=af ((),⟨fr,c7⟩))->∃kM,turn (ups fr) os.length (.str a) z' ⟨iy,c4⟩=af ((),⟨kM,c7⟩))
  (no:∀z':List Nat,∀a∈l,¬p a->∀iy c4,∃kM,turn (ups fr) os.length (.str a) z' ⟨iy,c4⟩=af ((),⟨kM,c4⟩)):
  ∃os',fc ups body ⟨l.map .str,fz⟩ z ⟨fr,os⟩=af (.ref os.length,⟨fr,os'⟩)/\os'[os.length]? =af (.list ((l.filter λa=>decide (p a)).map .str))/\Hi os.length os os':=by
 have hN:(l.flatMap λa=>if p a then [bp a] else []).length<=1000000:=by
  rw [qJ,aH];have:=cJ (λa=>decide (p a)) l;exact ai (ai this hl) (ak rfl)
 refine cO (iV (fr:=fr) (os:=os) (z:=z) (ups:=ups) (body:=body) (turn:=turn) (fz:=fz) (iv:=bp) (f:=λa=>if p a then [bp a] else []) (l:=l) hb hz hf hN
  (λz' hz' a ha iy c4 xs h1 h2 hN=>by
   have hacc:os.length∉z':=λq=>aW _ (hz' _ q);by_cases q:p a
   ·simp only [if_pos q] at hN ⊢;obtain ⟨kM,e⟩:=yes z' a ha q iy c4 _ λc fr=>gV (c:=c) h2 hacc hN (.str a) fr;exact ⟨kM,_,e,dA h2,h1.trans (Hi.set (ax _) _)⟩
   ·simp only [if_neg q,bB] at hN ⊢;obtain ⟨kM,e⟩:=no z' a ha q iy c4;exact ⟨kM,c4,e,h2,h1⟩)) λos' e g1 g2=>?_
 exact ⟨os',e,by rw [g1,qJ],g2⟩
theorem Uq(hu:getF (ups fr) "live" =af (.str (cX L)))(hL:∀y∈L,Sg y)(hs:∀y∈l,Sg y)(hz:∀j∈z,j<os.length)(hf:∀j,fz=af j->j<os.length)(hl:l.length<=100000):
  ∃os',fc ups (λuq i src=>wo (cx P aj cQ ao) uq i src) ⟨l.map .str,fz⟩ z ⟨fr,os⟩=af (.ref os.length,⟨fr,os'⟩)/\os'[os.length]? =af (.list ((l.filter λa=>decide (a∈L)).map .str))/\Hi os.length os os':=
 vM (turn:=λuq i v=>nf (cx P aj cQ ao) uq i v) (λa=>a∈L) (λ_ _ _=>rfl) hz hf hl (λz' a ha q iy c4 c7 p1=>by
  have c1:=λ(c:Cx) (s:eP)=>qH (c:=c) (z:=z') (s:=s) (hs a ha) hL;rw [decide_eq_true q] at c1;have l2:=λs=>iL (z:=z') (s:=s) hu;exact ⟨putF iy "user" (.str a),by (delta nf;with_reducible repeat' (first|apply c1|apply l2|apply p1|exact dR _ _ _|exact br|apply bt|apply bq|apply bE|apply bO|exact aE|apply av (by decide)|exact ba|apply bg (by decide)|exact aI|apply aO|exact bA|(apply b7;apply bX)|(apply bV;focus rfl)|rfl))⟩) (λz' a ha q iy c4=>by
  have c1:=λ(c:Cx) (s:eP)=>qH (c:=c) (z:=z') (s:=s) (hs a ha) hL;rw [decide_eq_false q] at c1;have l2:=λs=>iL (z:=z') (s:=s) hu;exact ⟨putF iy "user" (.str a),by (delta nf;with_reducible repeat' (first|apply c1|apply l2|(apply ite_no;focus exact bh)|exact dR _ _ _|exact br|apply bt|apply bq|apply bE|apply bO|exact aE|apply av (by decide)|exact ba|apply bg (by decide)|exact aI|apply aO|exact bA|(apply b7;apply bX)|(apply bV;focus rfl)|rfl))⟩)
theorem QS(hu:getF (ups fr) "live" =af (.str (cX L)))(hL:∀y∈L,Sg y)(hs:∀y∈l,Sg y)(hz:∀j∈z,j<os.length)(hf:∀j,fz=af j->j<os.length)(hl:l.length<=100000):
  ∃os',fc ups (λuq i src=>uR (cx P aj cQ ao) uq i src) ⟨l.map .str,fz⟩ z ⟨fr,os⟩=af (.ref os.length,⟨fr,os'⟩)/\os'[os.length]? =af (.list ((l.filter λa=>decide (a∈L)).map .str))/\Hi os.length os os':=
 vM (turn:=λuq i v=>lP (cx P aj cQ ao) uq i v) (λa=>a∈L) (λ_ _ _=>rfl) hz hf hl (λz' a ha q iy c4 c7 p1=>by
  have c1:=λ(c:Cx) (s:eP)=>qH (c:=c) (z:=z') (s:=s) (hs a ha) hL;rw [decide_eq_true q] at c1;have l2:=λs=>iL (z:=z') (s:=s) hu;exact ⟨putF iy "user" (.str a),by (delta lP;with_reducible repeat' (first|apply c1|apply l2|apply p1|exact dR _ _ _|exact br|apply bt|apply bq|apply bE|apply bO|exact aE|apply av (by decide)|exact ba|apply bg (by decide)|exact aI|apply aO|exact bA|(apply b7;apply bX)|(apply bV;focus rfl)|rfl))⟩) (λz' a ha q iy c4=>by
  have c1:=λ(c:Cx) (s:eP)=>qH (c:=c) (z:=z') (s:=s) (hs a ha) hL;rw [decide_eq_false q] at c1;have l2:=λs=>iL (z:=z') (s:=s) hu;exact ⟨putF iy "user" (.str a),by (delta lP;with_reducible repeat' (first|apply c1|apply l2|(apply ite_no;focus exact bh)|exact dR _ _ _|exact br|apply bt|apply bq|apply bE|apply bO|exact aE|apply av (by decide)|exact ba|apply bg (by decide)|exact aI|apply aO|exact bA|(apply b7;apply bX)|(apply bV;focus rfl)|rfl))⟩)
theorem QT(hu:getF (ups fr) "live" =af (.str (cX L)))(hL:∀y∈L,Sg y)(hs:∀y∈l,Sg y)(hz:∀j∈z,j<os.length)(hf:∀j,fz=af j->j<os.length)(hl:l.length<=100000):
  ∃os',fc ups (λuq i src=>uQ (cx P aj cQ ao) uq i src) ⟨l.map .str,fz⟩ z ⟨fr,os⟩=af (.ref os.length,⟨fr,os'⟩)/\os'[os.length]? =af (.list ((l.filter λa=>decide (a∈L)).map .str))/\Hi os.length os os':=
 vM (turn:=λuq i v=>nh (cx P aj cQ ao) uq i v) (λa=>a∈L) (λ_ _ _=>rfl) hz hf hl (λz' a ha q iy c4 c7 p1=>by
  have c1:=λ(c:Cx) (s:eP)=>qH (c:=c) (z:=z') (s:=s) (hs a ha) hL;rw [decide_eq_true q] at c1;have l2:=λs=>iL (z:=z') (s:=s) hu;exact ⟨putF iy "sign" (.str a),by (delta nh;with_reducible repeat' (first|apply c1|apply l2|apply p1|exact dR _ _ _|exact br|apply bt|apply bq|apply bE|apply bO|exact aE|apply av (by decide)|exact ba|apply bg (by decide)|exact aI|apply aO|exact bA|(apply b7;apply bX)|(apply bV;focus rfl)|rfl))⟩) (λz' a ha q iy c4=>by
  have c1:=λ(c:Cx) (s:eP)=>qH (c:=c) (z:=z') (s:=s) (hs a ha) hL;rw [decide_eq_false q] at c1;have l2:=λs=>iL (z:=z') (s:=s) hu;exact ⟨putF iy "sign" (.str a),by (delta nh;with_reducible repeat' (first|apply c1|apply l2|(apply ite_no;focus exact bh)|exact dR _ _ _|exact br|apply bt|apply bq|apply bE|apply bO|exact aE|apply av (by decide)|exact ba|apply bg (by decide)|exact aI|apply aO|exact bA|(apply b7;apply bX)|(apply bV;focus rfl)|rfl))⟩)
theorem Ur(h:Tx t)(hx:Sg x)(oS:os[tx]? =af (.list (Bz t)))(hz:∀j∈z,j<os.length)(hn:getF fr "name" =af (.str x))(hf:getF fr "texts" =af (.ref tx)):
  ∃os',fc (λfr=>fe [(ah "name",getF fr "name"),(ah "texts",getF fr "texts")]) (λuq i src=>rf (cx P aj cQ ao) uq i src) ⟨(cb 0 4).map λ(i:Nat)=>bD i,ae⟩ z ⟨fr,os⟩=af (.ref os.length,⟨fr,os'⟩)/\os'[os.length]? =af (.list ((xo bW t x).map .str))/\Hi os.length os os':=by
 have hlen:(Jz.flatMap λp=>if x∈t p.2 then [bp p.2] else []).length<=1000000:=by
  have h1:∀p:Nat × Str,(if x∈t p.2 then [bp p.2] else []).length<=1:=λp=>by split<;>simp
  have h2:∀l:List (Nat × Str),(l.flatMap λp=>if x∈t p.2 then [bp p.2] else []).length<=l.length:=by
   intro l;induction l with
   |nil=>exact ax _
   |cons a l ih=>rw [bz,aq,bb];have:=h1 a;exact Yl this ih
  exact ai (h2 Jz) (by decide)
 refine cO (iV (fr:=fr) (os:=os) (z:=z) (ups:=λfr=>fe [(ah "name",getF fr "name"),(ah "texts",getF fr "texts")]) (body:=λuq i src=>rf (cx P aj cQ ao) uq i src) (turn:=λuq i v=>nc (cx P aj cQ ao) uq i v) (fz:=none) (iv:=λp:Nat × Str=>bD p.1) (f:=λp=>if x∈t p.2 then [bp p.2] else []) (l:=Jz) (λ_ _ _=>rfl) hz (λ_ h=>by injection h) hlen
  (λz' hz' a ha iy c4 xs h1 h2 hN=>by
   have hat:=Ek a ha;have hmem:a.2∈bW:=bN hat;have ht1:=h1.at (aX oS) oS;have hacc:os.length∉z':=λq=>aW _ (hz' _ q);have u1:getF (fe [(ah "name",getF fr "name"),(ah "texts",getF fr "texts")]) "name" =af (.str x):=by rw [hn,hf];exact ba
   have u2:getF (fe [(ah "name",getF fr "name"),(ah "texts",getF fr "texts")]) "texts" =af (.ref tx):=by rw [hn,hf];exact bg (by decide) ba
   have l1:=λs=>iL (z:=z') (s:=s) u1;have l2:=λs=>iL (z:=z') (s:=s) u2;have i1:=λ(c:Cx) fr=>ya (c:=c) (z:=z') (fr:=fr) (.inl ht1) (Ga (t:=t) hat) BA;have i2:=λ(c:Cx) (s:eP)=>QQ (c:=c) (z:=z') (s:=s) hat;have c1:=λ(c:Cx) (s:eP)=>qH (c:=c) (z:=z') (s:=s) hx (h.sg a.2 hmem);by_cases q:x∈t a.2
   ·rw [decide_eq_true q] at c1;simp only [if_pos q] at hN ⊢;have p1:=λ(c:Cx) fr=>gV (c:=c) h2 hacc hN (.str a.2) fr;refine ⟨putF iy "i" (.int a.1),c4.set os.length (.list (xs++ [.str a.2])),?_,dA h2,h1.trans (Hi.set (ax _) _)⟩;(delta nc;with_reducible repeat' (first|apply l1|apply l2|apply i1|apply c1|apply i2|apply p1|exact dR _ _ _|exact br|apply bt|apply bq|apply bE|apply bO|exact aE|apply av (by decide)|exact ba|apply bg (by decide)|exact aI|apply aO|exact bA|(apply b7;apply bX)|(apply bV;focus rfl)|rfl))
   ·rw [decide_eq_false q] at c1;simp only [if_neg q,bB] at hN ⊢;refine ⟨putF iy "i" (.int a.1),c4,?_,h2,h1⟩;(delta nc;with_reducible repeat' (first|apply l1|apply l2|apply i1|apply c1|(apply ite_no;focus exact bh)|exact dR _ _ _|exact br|apply bt|apply bq|apply bE|apply bO|exact aE|apply av (by decide)|exact ba|apply bg (by decide)|exact aI|apply aO|exact bA|(apply b7;apply bX)|(apply bV;focus rfl)|rfl)))) λos' e g1 g2=>?_
 refine ⟨os',e,g1.trans ?_,g2⟩;congr 2;have:=qJ (λi=>x∈t i) bp bW;unfold xo;rw [←this];rfl
def QU(t:Str->List Str)(os:List O)(es:List (Str × V))(l:List Str):Prop:=∀x∈l,∃r,lookE es x=af (.ref r)/\os[r]? =af (.list ((xo bW t x).map .str))
theorem JA(es:List (Str × V))(k:Str)(v:V):(jY es k v).length<=es.length+1:=by
 unfold jY;split
 ·rw [aH];exact aF _ _
 ·rw [aq];exact ax _
theorem Us(h:Tx t){us:Nat}(hb:b<=us)(oS:tx<b):∀(l m:List Str) (fr:eB) (os:List O) (es:List (Str × V)),(∀x∈l,x∈bW)->(∀j∈z,j<b)->os[tx]? =af (.list (Bz t))->os[us]? =af (.dict es)->QU t os es m->es.length+l.length<=1000->getF fr "texts" =af (.ref tx)->getF fr "users" =af (.ref us)->
  ∃ej os' es',fQ (λv=>jD (cx P aj cQ ao) v) (l.map .str) z ⟨fr,os⟩=af (.next,⟨ej,os'⟩)/\Hi b os os'/\os'[us]? =af (.dict es')/\QU t os' es' (m++l)/\getF ej "texts" =af (.ref tx)/\getF ej "users" =af (.ref us):=by
 intro l;induction l with
 |nil=>exact λm fr os es _ _ _ h1 h2 _ h3 h4=>⟨fr,os,es,rfl,.refl,h1,by rw [bB];exact h2,h3,h4⟩
 |cons x l ih=>
  intro m fr os es hl hz OR Eu hm hlen hf1 hf2;rw [bb] at hlen;have hxn:=hl x (fg ..);have Va:=aX Eu;have hz0:∀j∈z,j<os.length:=λj hj=>aD (ag (hz j hj) hb) Va;have hi0:Hi os.length os (os++ [.range 0 4 1]):=Hi.grow (ax _) _;have r1:=λfr=>wY (P:=P) (aj:=aj) (cQ:=cQ) (z:=z) (fr:=fr) (os:=os);have s1:=λfr=>H3 (P:=P) (aj:=aj) (cQ:=cQ) (z:=z) (fr:=fr) (cK:(os++ [dB 0 4 1])[os.length]? =af (.range 0 4 1));refine cO (Ur (P:=P) (aj:=aj) (cQ:=cQ) (z:=z) (fr:=putF fr "name" (.str x)) h (nG hxn) (bI OR:(os++ [dB 0 4 1])[tx]? =_) (λj hj=>ag (hz0 j hj) hi0.len) aE (av (by decide) hf1)) λc4 e1 g1 i1=>?_;have hi1:=hi0.Lq i1;have X4:=hi1.at Va Eu;have Z7:us∉z:=λq=>aW _ (ag (hz us q) hb);have u1:=λ(c:Cx) fr=>xX (c:=c) (z:=z) (fr:=fr) (k:=x) (v:=.ref (os++ [dB 0 4 1]).length) X4 Z7 (ai (ai (JA es x (.ref (os++ [dB 0 4 1]).length)) (cg (dU hlen) _)) (ak rfl));have st:jD (cx P aj cQ ao) (.str x) z ⟨fr,os⟩=af (.next,⟨putF fr "name" (.str x),c4.set us (.dict (jY es x (.ref (os++ [dB 0 4 1]).length)))⟩):=by
   (delta jD;with_reducible repeat' (first|apply r1|apply s1|apply e1|apply hf2|apply u1|exact dR _ _ _|exact br|apply bt|apply bq|apply bE|apply bO|exact aE|apply av (by decide)|exact ba|apply bg (by decide)|exact aI|apply aO|exact bA|(apply b7;apply bX)|(apply bV;focus rfl)|rfl))
  have OS:Hi b os (c4.set us (.dict (jY es x (.ref (os++ [dB 0 4 1]).length)))):=⟨by rw [dI];exact hi1.len,λj hj=>(bH (eM (ag hj hb))).trans (hi1.keep j (aD (ag hj hb) Va))⟩;have hm':QU t (c4.set us (.dict (jY es x (.ref (os++ [dB 0 4 1]).length)))) (jY es x (.ref (os++ [dB 0 4 1]).length)) (m++ [x]):=λy hy=>by
   rw [AN];by_cases q:y=x
   ·subst q;rw [if_pos rfl];exact ⟨_,rfl,bC g1 (by rw [aq];simp;exact bP (aD Va (bU _)))⟩
   ·rw [if_neg q];refine aR (hm y ((aG.mp hy).resolve_right λw=>q (aL.mp w))) λr a1 a2=>?_;exact ⟨r,a1,bC (hi1.at (aX a2) a2) λw=>by subst w;rw [Eu] at a2;cases a2⟩
  refine dx (ih (m++ [x]) (putF fr "name" (.str x)) _ _ (λy hy=>hl y (i8 _ hy)) hz (OS.at oS OR) (dA X4) hm' (by have:=JA es x (.ref (os++ [dB 0 4 1]).length);exact ai (cg this _) (VB hlen)) (av (by decide) hf1) (av (by decide) hf2)) λej os' es' e2 a1 a2 a3 a4 a5=>?_;refine ⟨ej,os',es',?_,OS.trans a1,a2,?_,a4,a5⟩
  ·rw [bx];exact (ig (turn:=λv=>jD (cx P aj cQ ao) v) st).trans e2
  ·rw [aQ] at a3;exact a3
theorem WH:(!false)=ao:=rfl
theorem Ut:¬(!true)=ao:=by decide
theorem QU.keep(h:QU t os es l)(hi:∀j,j<os.length->os'[j]? =os[j]?):QU t os' es l:=λx hx=>by
 refine aR (h x hx) λr a e=>?_;exact ⟨r,a,(hi r (aX e)).trans e⟩
theorem Oa(h:y∈xo bW t x):Sg y:=nG (bL.mp h).1
theorem H6:(xo bW t x).length<=4:=cJ ..
theorem Uu{us:Nat}(hu:getF fr "live" =af (.str (cX L)))(Eu:getF fr "users" =af (.ref us))(hL:∀y∈L,y∈bW)(hl:L.length<=4)(hd:os[us]? =af (.dict es))(hr:QU t os es bW)(hz:∀j∈z,j<os.length):
  ∃os',fc (λfr=>fe [(ah "live",getF fr "live"),(ah "users",getF fr "users")]) (λuq i src=>rh (cx P aj cQ ao) uq i src) ⟨L.map .str,ae⟩ z ⟨fr,os⟩=af (.ref os.length,⟨fr,os'⟩)/\
   os'[os.length]? =af (.list ((L.filter λn=>(xo bW t n).any λu=>decide (u∈L)).map .str))/\Hi os.length os os':=by
 have Vb:∀y∈L,Sg y:=λy hy=>nG (hL y hy);have hlen:(L.flatMap λa=>if (xo bW t a).any (λu=>decide (u∈L))=ao then [bp a] else []).length<=1000000:=by
  rw [qJ,aH];have:=cJ (λa=>decide ((xo bW t a).any (λu=>decide (u∈L))=ao)) L;exact ai (ai this hl) (ak rfl)
 refine cO (iV (fr:=fr) (os:=os) (z:=z) (ups:=λfr=>fe [(ah "live",getF fr "live"),(ah "users",getF fr "users")]) (body:=λuq i src=>rh (cx P aj cQ ao) uq i src) (turn:=λuq i v=>ng (cx P aj cQ ao) uq i v) (fz:=none) (iv:=bp) (f:=λa=>if (xo bW t a).any (λu=>decide (u∈L))=ao then [bp a] else []) (l:=L) (λ_ _ _=>rfl) hz (λ_ h=>by injection h) hlen
  (λz' hz' a ha iy c4 xs h1 h2 hN=>by
   have hacc:os.length∉z':=λq=>aW _ (hz' _ q);have v1:getF (fe [(ah "live",getF fr "live"),(ah "users",getF fr "users")]) "live" =af (.str (cX L)):=by rw [hu,Eu];exact ba
   have v2:getF (fe [(ah "live",getF fr "live"),(ah "users",getF fr "users")]) "users" =af (.ref us):=by rw [hu,Eu];exact bg (by decide) ba
   have l2:=λs=>iL (z:=z') (s:=s) v2;obtain ⟨r,a1,a2⟩:=hr a (hL a ha);have i1:=λ(c:Cx) fr=>yY (c:=c) (z:=z') (fr:=fr) (h1.at (aX hd) hd) a1;have hr1:=h1.at (aX a2) a2;have s1:=λfr=>src_list (P:=P) (aj:=aj) (cQ:=cQ) (z:=z') (fr:=fr) hr1;have Co:=aX h2;have hz1:∀j∈z',j<c4.length:=λj hj=>aD (hz' j hj) Co;obtain ⟨c7,e2,b1,b2⟩:=Uq (P:=P) (aj:=aj) (cQ:=cQ) (z:=z') (os:=c4) (fr:=putF iy "name" (.str a)) (L:=L) (l:=xo bW t a) (fz:=af r) (ups:=λ_=>fe [(ah "live",getF (fe [(ah "live",getF fr "live"),(ah "users",getF fr "users")]) "live")]) (by rw [v1];exact ba) Vb (λy=>Oa) hz1 (λj hj=>by injection hj with hj;subst hj;exact aX hr1) (ai (H6 (t:=t) (x:=a)) (ak rfl));have m1:=λfr=>dW (o:=.list []) rfl z' fr c7;have q1:=eq_nil (os:=c7++ [.list []]) (bI b1) cK (Ej λx hx=>Oa (bL.mp hx).1);have h3:=b2.at Co h2;have hi:Hi os.length os (c7++ [cM []]):=(h1.trans ⟨b2.len,λj hj=>b2.keep j (aD hj Co)⟩).trans (Hi.grow (ai h1.len b2.len) _);by_cases q:(xo bW t a).any (λu=>decide (u∈L))=ao
   ·simp only [if_pos q] at hN ⊢;have q':¬(xo bW t a).filter (λu=>decide (u∈L))= []:=λe=>by
     obtain ⟨u,hu1,ZA⟩:=iX.mp q;have:u∈(xo bW t a).filter (λu=>decide (u∈L)):=bL.mpr ⟨hu1,ZA⟩;rw [e] at this;exact absurd this aU
    rw [decide_eq_false q'] at q1;have p1:=λ(c:Cx) fr=>gV (c:=c) (bI h3:(c7++ [cM []])[os.length]? =_) hacc hN (.str a) fr;refine ⟨putF iy "name" (.str a),_,?_,dA (bI h3),hi.trans (Hi.set (ax _) _)⟩;(delta ng;with_reducible repeat' (first|apply l2|apply i1|apply s1|apply e2|apply m1|(apply yX;exact q1)|(apply bV;focus exact WH)|apply p1|exact dR _ _ _|exact br|apply bt|apply bq|apply bE|apply bO|exact aE|apply av (by decide)|exact ba|apply bg (by decide)|exact aI|apply aO|exact bA|(apply b7;apply bX)|(apply bV;focus rfl)|rfl))
   ·simp only [if_neg q,bB] at hN ⊢;have q':(xo bW t a).filter (λu=>decide (u∈L))= []:=jf.mpr λu hu hd=>q (iX.mpr ⟨u,hu,hd⟩);rw [decide_eq_true q'] at q1;refine ⟨putF iy "name" (.str a),_,?_,bI h3,hi⟩;(delta ng;with_reducible repeat' (first|apply l2|apply i1|apply s1|apply e2|apply m1|(apply yX;exact q1)|(apply ite_no;focus exact Ut)|(apply ite_no;focus exact bh)|exact dR _ _ _|exact br|apply bt|apply bq|apply bE|apply bO|exact aE|apply av (by decide)|exact ba|apply bg (by decide)|exact aI|apply aO|exact bA|(apply b7;apply bX)|(apply bV;focus rfl)|rfl)))) λos' e g1 g2=>?_
 refine ⟨os',e,g1.trans ?_,g2⟩;rw [qJ];congr 3;exact jT λa _=>Bool.decide_eq_true
theorem nj:∀y∈cG bW t k,y∈bW:=λy hy=>vI (fm k) hy
theorem u7:(cG bW t k).length<=4:=by
 induction k with
 |zero=>exact ax _
 |succ k ih=>exact ai (cJ ..) ih
theorem QV{us:Nat}(hz:∀j∈z,j<b):∀(n k:Nat) (fr:eB) (os:List O),b<=os.length->os[us]? =af (.dict es)->QU t os es bW->getF fr "live" =af (.str (cX (cG bW t k)))->getF fr "users" =af (.ref us)->getF fr "texts" =af (.ref tx)->
  ∃ej os',fQ (λv=>jE (cx P aj cQ ao) v) ((cb k n).map λ(i:Nat)=>bD i) z ⟨fr,os⟩=af (.next,⟨ej,os'⟩)/\Hi os.length os os'/\getF ej "live" =af (.str (cX (cG bW t (k+n))))/\getF ej "users" =af (.ref us)/\getF ej "texts" =af (.ref tx):=by
 intro n;induction n with
 |zero=>exact λk fr os _ _ _ h1 h2 h3=>⟨fr,os,rfl,.refl,h1,h2,h3⟩
 |succ n ih=>
  intro k fr os hb hd hr hf1 hf2 JQ;have hz1:∀j∈z,j<os.length:=λj hj=>ag (hz j hj) hb;have Vb:∀y∈cG bW t k,Sg y:=λy hy=>nG (nj y hy);have Z8:∀y∈cG bW t (k+1),Sg y:=λy hy=>nG (nj y hy);have s1:=λfr=>qI (P:=P) (aj:=aj) (cQ:=cQ) (z:=z) (fr:=fr) (os:=os) Vb;have m1:=λ(c:Cx) fr=>ru (c:=c) (z:=z) (fr:=fr) (os:=os) (x:=ah "") vH;refine cO (Uu (P:=P) (aj:=aj) (cQ:=cQ) (z:=z) (os:=os) (fr:=putF fr "step" (.int k)) (av (by decide) hf1) (av (by decide) hf2) nj u7 hd hr hz1) λc4 e1 g1 i1=>?_;have GF:c4[os.length]? =af (.list ((cG bW t (k+1)).map .str)):=g1;have j1:=λ(c:Cx) fr=>y9 (c:=c) (z:=z) (fr:=fr) GF (by rw [rW Z8];have:=u7 (t:=t) (k:=k+1);exact ai this (ak rfl));have st:jE (cx P aj cQ ao) (.int k) z ⟨fr,os⟩=af (.next,⟨putF (putF fr "step" (.int k)) "live" (.str (cX (cG bW t (k+1)))),c4⟩):=by
   (delta jE;with_reducible repeat' (first|apply hf1|apply s1|apply e1|apply m1|apply j1|exact dR _ _ _|exact br|apply bt|apply bq|apply bE|apply bO|exact aE|apply av (by decide)|exact ba|apply bg (by decide)|exact aI|apply aO|exact bA|(apply b7;apply bX)|(apply bV;focus rfl)|rfl))
  refine dD (ih (k+1) (putF (putF fr "step" (.int k)) "live" (.str (cX (cG bW t (k+1))))) c4 (ai hb i1.len) (i1.at (aX hd) hd) (hr.keep i1.keep) aE (av (by decide) (av (by decide) hf2)) (av (by decide) (av (by decide) JQ))) λej os' e2 a1 a2 a3 a4=>?_;refine ⟨ej,os',?_,i1.Lq a1,by rw [show k+(n+1)=k+1+n from aN _ _ 1];exact a2,a3,a4⟩;rw [kr,bx];exact (ig (turn:=λv=>jE (cx P aj cQ ao) v) st).trans e2
theorem QW(hx:eO x=ao)(hy:eO y=ao):EJ os (.str x) (.str y)=af (decide (x=y)):=by
 refine Eq.trans (b:=if (xm x).canLay0=ao/\(xm y).canLay0=ao/\(xm x).depth<=20 then af (mQ (.str x) (.str y)) else ae) rfl ?_;refine (if_pos ⟨hx,hy,ak rfl⟩).trans ?_;congr 1
theorem Ob(h:∀x∈l,Sg x):eO (cX l)=ao:=by
 unfold eO;rw [←zt];refine bK.mpr λc hc=>?_;have:iH c∈lets (cX l):=aT.mpr ⟨c,hc,rfl⟩;rw [tr h] at this;refine aR (h _ this) λk hk e=>?_;exact decide_eq_true (Jy e▸hk)
theorem QX(h:∀x∈l,Sg x):cX l=ah "" ↔l= []:=by
 constructor
 ·intro e;have:=tr h;rw [e] at this;exact this.symm
 ·rintro rfl;exact Eh.symm
noncomputable def Ld(t:Str->List Str)(L:List Str)(l:List Str):List Str:=l.flatMap λi=>(i::t i).filter λs=>decide (s∈L)
theorem Oc{ys:List V}(h:os[i]? =af (.list xs))(h':os[j]? =af (.list ys))(hz:i∉z)(hs:xs.length+ys.length<=1000000):fh c "list.extend" (.ref i) [.ref j] z ⟨fr,os⟩=af (.none,⟨fr,os.set i (.list (xs++ys))⟩):=
 Nb.trans ((aZ (eL h z fr)).trans ((aZ (eL h' z fr)).trans (aZ (lR (o:=.list (xs++ys)) h (decide_eq_true (by rw [aq];exact hs)) hz fr))))
theorem Gb{s:eP}(h:x.cps.size+y.cps.size<=1000000):binC c .Add (.str x) (.str y) z s=af (.str (x++y),s):=Ba (a:=aA (bp (x++y))) (b:=fail) h z s
theorem Od(h:Tx t){nd:Nat}{us:Nat}(hz:∀j∈z,j<b)(hL:∀y∈L,Sg y)(hb:b<=nd)(oS:tx<b):∀(ps:List (Nat × Str)) (m:List Str) (fr:eB) (os:List O),(∀p∈ps,p∈Jz)->os[tx]? =af (.list (Bz t))->os[nd]? =af (.list (m.map .str))->m.length+10*ps.length<=1000->getF fr "live" =af (.str (cX L))->getF fr "texts" =af (.ref tx)->getF fr "named" =af (.ref nd)->getF fr "users" =af (.ref us)->
  ∃ej os',fQ (λv=>iU (cx P aj cQ ao) v) (ps.map λp=>bD p.1) z ⟨fr,os⟩=af (.next,⟨ej,os'⟩)/\Hi nd os os'/\os'[nd]? =af (.list ((m++Ld t L (ps.map (·.2))).map .str))/\getF ej "live" =af (.str (cX L))/\getF ej "named" =af (.ref nd)/\getF ej "users" =af (.ref us):=by
 intro ps;induction ps with
 |nil=>exact λm fr os _ _ h1 _ h2 _ h4 h5=>⟨fr,os,rfl,.refl,by rw [h1];simp [Ld],h2,h4,h5⟩
 |cons p ps ih=>
  intro m fr os hp OR hnd hlen hf1 hf2 JQ Z9;rw [bb] at hlen;have hat:=Ek p (hp p (fg ..));have hmem:p.2∈bW:=bN hat;have lnd:=aX hnd;have hz1:∀j∈z,j<os.length:=λj hj=>aD (ag (hz j hj) hb) lnd;have ndz:nd∉z:=λq=>aW _ (ag (hz nd q) hb);have sgl:∀y∈p.2::t p.2,Sg y:=λy hy=>by
   rcases jJ hy with rfl|hy
   ·exact nG hmem
   ·exact h.sg _ hmem y hy
  have YE:=h.len p.2 hmem;have i1:=λ(c:Cx) fr=>ya (c:=c) (z:=z) (fr:=fr) (.inl OR) (Ga (t:=t) hat) BA;have i2:=λ(c:Cx) (s:eP)=>QQ (c:=c) (z:=z) (s:=s) hat;have ad:∀(c:Cx) (s:eP),binC c .Add (.str p.2) (.str (cX (t p.2))) z s=af (.str (cX (p.2::t p.2)),s):=λc s=>Gb (by
   rw [rW (h.sg p.2 hmem)];have:p.2.cps.size=1:=by
    refine aR (nG hmem) λk _ e=>?_;rw [e];rfl
   exact qk (dS (ar this) YE) rfl)
  have s1:=λfr=>qI (P:=P) (aj:=aj) (cQ:=cQ) (z:=z) (fr:=fr) (os:=os) sgl;refine cO (QT (P:=P) (aj:=aj) (cQ:=cQ) (z:=z) (os:=os) (fr:=putF fr "i" (.int p.1)) (L:=L) (l:=p.2::t p.2) (fz:=none) (ups:=λfr=>fe [(ah "live",getF fr "live")]) (by rw [av (by decide) hf1];exact ba) hL sgl hz1 (λ_ h=>by injection h) (by rw [bb];exact aV YE (ak rfl))) λc4 e1 g1 k1=>?_;have m1:=λ(c:Cx) fr=>k8 (c:=c) (z:=z) (fr:=fr) hnd KW;have X5:=k1.at lnd hnd;have hfl:=cJ (λs=>decide (s∈L)) (p.2::t p.2);rw [bb] at hfl;have x1:=λ(c:Cx) fr=>Oc (c:=c) (z:=z) (fr:=fr) X5 g1 ndz (by rw [aH,aH];exact qk (dS (ai (aF _ _) hlen) (ai hfl (iZ YE))) rfl);have st:iU (cx P aj cQ ao) (.int p.1) z ⟨fr,os⟩=af (.next,⟨putF fr "i" (.int p.1),c4.set nd (.list (m.map .str++((p.2::t p.2).filter λs=>decide (s∈L)).map .str))⟩):=by
   (delta iU;with_reducible repeat' (first|apply hf1|apply hf2|apply JQ|apply i2|apply i1|apply ad|apply s1|apply e1|apply m1|apply x1|exact dR _ _ _|exact br|apply bt|apply bq|apply bE|apply bO|exact aE|apply av (by decide)|exact ba|apply bg (by decide)|exact aI|apply aO|exact bA|(apply b7;apply bX)|(apply bV;focus rfl)|rfl))
  rw [←cw] at st;have OS:Hi nd os (c4.set nd (.list ((m++(p.2::t p.2).filter λs=>decide (s∈L)).map .str))):=⟨by rw [dI];exact k1.len,λj hj=>(bH (eM hj)).trans (k1.keep j (aD hj lnd))⟩;refine iA (ih (m++(p.2::t p.2).filter λs=>decide (s∈L)) (putF fr "i" (.int p.1)) _ (λq hq=>hp q (i8 _ hq)) (OS.at (ag oS hb) OR) (dA X5) (by rw [aq];exact ai (ai (cg (bF (ai hfl (iZ YE)) _) _) (ar (aN _ _ _))) hlen) (av (by decide) hf1) (av (by decide) hf2) (av (by decide) JQ) (av (by decide) Z9)) λej os' e2 a1 a2 a3 a4 a5=>?_;refine ⟨ej,os',?_,OS.trans a1,?_,a3,a4,a5⟩
  ·rw [bx];exact (ig (turn:=λv=>iU (cx P aj cQ ao) v) st).trans e2
  ·rw [a2,aQ];rfl
theorem QY(xs:List V)(v:V):uD (xs++ [v]) .none (.int (-1)) .none=af xs:=by
 refine (x5 rfl rfl).trans ?_;show af (((xs++ [v]).drop 0).take (kI (xs++ [v]).length (-1)-0))=_;have e:kI (xs++ [v]).length (-1)=xs.length:=by
  unfold kI;rw [aq,fP];simp;exact by rw [m1q,z2 (tH (Int.lt_succ _)),sF (dY _)];rfl
 rw [e,pS,Nat.sub_zero,List.take_left]
theorem Le{xs:List Str}{k:Str}(h:os[i]? =af (.list (xs.map .str))):cmpC c .NotIn (.str k) (.ref i) z ⟨fr,os⟩=af (.bool (!decide (k∈xs)),⟨fr,os⟩):=by
 refine (aZ (eL h z fr)).trans ((Ba (by rw [Ef];rfl) z _).trans ?_);rw [Ee];rfl
theorem QZ{w:Nat}{p:List Str}(hw:getF fr "way" =af (.ref w))(h:os[w]? =af (.list (p.map .str++ [.str y])))(hp:p.length<=1000):
  j0 (cx P aj cQ ao) z ⟨fr,os⟩=af (!decide (y∈p),⟨fr,os++ [.list (p.map .str)]⟩):=by
 have i1:=λ(c:Cx) fr=>Bj (c:=c) (z:=z) (fr:=fr) h;have s1:=λ(c:Cx) fr=>pK (c:=c) (z:=z) (fr:=fr) (o:=.ref w) (λfr=>eL h z fr) (QY (p.map .str) (.str y)) (by rw [aH];exact ai hp (ak rfl));have c1:=λ(c:Cx) fr=>Le (c:=c) (z:=z) (fr:=fr) (k:=y) (cK:(os++ [cM (p.map .str)])[os.length]? =_);(delta j0;with_reducible repeat' (first|apply hw|exact Be|apply i1|apply s1|apply c1|exact dR _ _ _|exact br|apply bt|apply bq|apply bE|apply bO|exact aE|apply av (by decide)|exact ba|apply bg (by decide)|exact aI|apply aO|exact bA|(apply b7;apply bX)|(apply bV;focus rfl)|rfl))
theorem Q0{w us:Nat}{p:List Str}(hz:∀j∈z,j<w)(hw:getF fr "way" =af (.ref w))(Eu:getF fr "users" =af (.ref us))(hlv:getF fr "live" =af (.str (cX L)))(h:os[w]? =af (.list (p.map .str++ [.str y])))(hp:p.length<=1000)
  (hL:∀x∈L,x∈bW) (hy:y∈bW) (hd:os[us]? =af (.dict es)) (hr:QU t os es bW) (Vc:us≠w) (hne:∃u,((xo bW t y).filter λu=>decide (u∈L)).head?=af u):
  ∃os',lQ (cx P aj cQ ao) z ⟨fr,os⟩=af (.next,⟨fr,os'⟩)/\Hi w os os'/\os'[w]? =af (.list ((p++ [y]).map .str++ [.str (((xo bW t y).filter λu=>decide (u∈L)).headD y)]))/\(∀j,j≠w->j<os.length->os'[j]? =os[j]?):=by
 obtain ⟨u,hu⟩:=hne;have lw:=aX h;have hz1:∀j∈z,j<os.length:=λj hj=>aD (hz j hj) lw;have wz:w∉z:=λq=>aW _ (hz w q);refine aR (hr y hy) λr a1 a2=>?_;have m1:=λ(c:Cx) fr=>k8 (c:=c) (z:=z) (fr:=fr) h mK;have i1:=λ(c:Cx) fr=>Bj (c:=c) (z:=z) (fr:=fr) h;have i2:=λ(c:Cx) fr=>yY (c:=c) (z:=z) (fr:=fr) hd a1;have s1:=λfr=>src_list (P:=P) (aj:=aj) (cQ:=cQ) (z:=z) (fr:=fr) a2;refine cO (QS (P:=P) (aj:=aj) (cQ:=cQ) (z:=z) (os:=os) (fr:=fr) (L:=L) (l:=xo bW t y) (fz:=af r) (ups:=λfr=>fe [(ah "live",getF fr "live")]) (by rw [hlv];exact ba) (λx hx=>nG (hL x hx)) (λx=>Oa) hz1 (λj hj=>by injection hj with hj;subst hj;exact aX a2) (ai (H6 (t:=t) (x:=y)) (ak rfl))) λc4 e1 g1 k1=>?_;have BG:((xo bW t y).filter λu=>decide (u∈L)).headD y=u:=by
  rw [List.headD_eq_head?_getD,hu];rfl
 have hat:((((xo bW t y).filter λu=>decide (u∈L)).map bp))[0]? =af (.str u):=by
  rw [eg,←tO,hu];rfl
 have i3:∀(c:Cx) fr,d0 c (.ref os.length) (.int 0) z ⟨fr,c4⟩=af (.str u,⟨fr,c4⟩):=λc fr=>ya (c:=c) (z:=z) (fr:=fr) (k:=0) (.inl g1) hat (by
  rw [aH];exact qk (ai (cJ _ _) (H6 (t:=t) (x:=y))) rfl)
 have hw1:=k1.at lw h;have p1:=λ(c:Cx) fr=>pH (c:=c) (z:=z) (fr:=fr) (v:=.str u) hw1 wz (by rw [aq,aH,fP];exact aV (cg hp _) (ak rfl));refine ⟨c4.set w (.list (p.map .str++ [.str y]++ [.str u])),?_,⟨by rw [dI];exact k1.len,λj hj=>(bH (eM hj)).trans (k1.keep j (aD hj lw))⟩,?_,λj hj hl=>(bH λq=>hj q.symm).trans (k1.keep j hl)⟩
 ·(delta lQ;with_reducible repeat' (first|apply hw|apply Eu|exact Be|apply m1|apply i1|apply i2|apply s1|apply e1|apply i3|apply p1|exact dR _ _ _|exact br|apply bt|apply bq|apply bE|apply bO|exact aE|apply av (by decide)|exact ba|apply bg (by decide)|exact aI|apply aO|exact bA|(apply b7;apply bX)|(apply bV;focus rfl)|rfl))
 ·rw [dA hw1,BG,cw];rfl
theorem Q1(h:∃u∈xo bW t y,u∈L):∃u,((xo bW t y).filter λu=>decide (u∈L)).head?=af u:=by
 refine aR h λu h1 h2=>?_;have:u∈(xo bW t y).filter λu=>decide (u∈L):=bL.mpr ⟨h1,decide_eq_true h2⟩;cases q:(xo bW t y).filter λu=>decide (u∈L) with
 |nil=>rw [q] at this;exact absurd this aU
 |cons a l=>exact ⟨a,rfl⟩
theorem Uv{w us:Nat}(hz:∀j∈z,j<w)(Vc:us<w):∀(m:Nat) (p:List Str) (y:Str) (os:List O) (N:Nat),y∈cG bW t 4->p.Nodup->(∀x∈p,x∈cG bW t 4)->(cG bW t 4).length<p.length+m->m<=N->
  getF fr "way" =af (.ref w)->getF fr "users" =af (.ref us)->getF fr "live" =af (.str (cX (cG bW t 4)))->os[w]? =af (.list (p.map .str++ [.str y]))->os[us]? =af (.dict es)->(∀x∈bW,∃r,r<w/\lookE es x=af (.ref r)/\os[r]? =af (.list ((xo bW t x).map .str)))->
  ∃os' p' y',g9 (j0 (cx P aj cQ ao)) (lQ (cx P aj cQ ao)) (aA bo) N z ⟨fr,os⟩=af (.next,⟨fr,os'⟩)/\Hi w os os'/\os'[w]? =af (.list (p'.map .str++ [.str y']))/\y'∈p'/\p'.length<=5/\pL p' y'=qG (O3 bW t 4) m p y:=by
 intro m;induction m with
 |zero=>
  intro p y os N hy hnd hp hl;have:=jt hnd hp;exact absurd hl (cC.mpr this)
 |succ m ih=>
  intro p y os N hy hnd hp hl hN hf1 hf2 JQ hw hd' hr;obtain ⟨N,rfl⟩:∃k,N=k+1:=⟨N-1,(fZ (sI hN)).symm⟩;have hpl:p.length<=4:=ai (jt hnd hp) u7;have t1:=QZ (P:=P) (aj:=aj) (cQ:=cQ) (z:=z) hf1 hw (ai hpl (ak rfl));have er:qG (O3 bW t 4) (m+1) p y=if y∈p then pL p y else qG (O3 bW t 4) m (p++ [y]) (O3 bW t 4 y):=rfl
  refine er▸ ?_;by_cases q:y∈p
  ·rw [decide_eq_true q] at t1;refine (if_pos q)▸ ?_;exact ⟨os++ [.list (p.map .str)],p,y,HP (test:=j0 (cx P aj cQ ao)) t1 (orelse:=aA bo) rfl rfl,Hi.grow (bS (aX hw)) _,bI hw,q,ai hpl (ak rfl),rfl⟩
  ·rw [decide_eq_false q] at t1;refine (if_neg q)▸ ?_;have hlive:=(x8.mp ((CY (na:=bW) (t:=t) (n:=4) (ax _))▸hy:y∈cG bW t (4+1))).2;have XZ:O3 bW t 4 y∈cG bW t 4:=by
    refine ck (Ju (na:=bW) (t:=t) (n:=4) (ax _) y hy) λ_ _ _ _ h3=>?_;exact h3
   refine C8 (Q0 (P:=P) (aj:=aj) (cQ:=cQ) (z:=z) (os:=os++ [.list (p.map .str)]) (t:=t) (es:=es) hz hf1 hf2 JQ (bI hw) (ai hpl (ak rfl)) nj (nj y hy) (bI hd') (λx hx=>by
    obtain ⟨r,_,a,b⟩:=hr x hx;exact ⟨r,a,bI b⟩) (bP Vc) (Q1 hlive)) λc4 e1 k1 g1 k2=>?_
   have hk:Hi w os c4:=(Hi.grow (bS (aX hw)) _).trans k1;refine dx (ih (p++ [y]) (O3 bW t 4 y) c4 N XZ (bk.mpr ⟨hnd,bu.mpr ⟨aU,dy⟩,λa ha b hb e=>q (by rw [aL] at hb;rw [←hb,←e];exact ha)⟩) (λx hx=>by
    rcases aG.mp hx with hx|hx
    ·exact hp x hx
    ·rw [aL] at hx;subst hx;exact hy) (by rw [aq,fP];omega) (eY hN) hf1 hf2 JQ g1 (hk.at Vc hd') (λx hx=>by
    obtain ⟨r,a0,a,b⟩:=hr x hx;exact ⟨r,a0,a,hk.at a0 b⟩)) λos' p' y' e2 a1 a2 a3 a4 a5=>?_
   exact ⟨os',p',y',(xZ t1 e1).trans e2,hk.trans a1,a2,a3,a4,a5⟩
def nV(t:Str->List Str):Option (List Str):=((Ld t (cG bW t 4) bW).head?).map (qG (O3 bW t 4) ((cG bW t 4).length+1) [])
theorem El(h:y∈Ld t L bW):y∈L:=by
 refine aR (cI.mp h) λi _ hy=>?_;exact iK (bL.mp hy).2
theorem WI(hL:∀x∈L,x∈bW)(h:y∈L):y∈Ld t L bW:=cI.mpr ⟨y,hL y h,bL.mpr ⟨fg ..,decide_eq_true h⟩⟩
theorem Uw(h:Tx t):(Ld t L bW).length<=40:=by
 have:∀l:List Str,(∀x∈l,x∈bW)->(Ld t L l).length<=10*l.length:=by
  intro l;induction l with
  |nil=>exact λ_=>ax _
  |cons a l ih=>
   intro hl;have h1:=cJ (λs=>decide (s∈L)) (a::t a);have h2:=h.len a (hl a (fg ..));have h3:=ih λx hx=>hl x (i8 _ hx);rw [bb] at h1;show (((a::t a).filter λs=>decide (s∈L))++Ld t L l).length<=_;rw [aq,bb];exact VC (ai h1 (iZ h2)) h3
 exact this bW λ_ h=>h
theorem Q2{w:Nat}{p:List Str}(hw:getF fr "way" =af (.ref w))(h:os[w]? =af (.list (p.map .str++ [.str y])))(hp:p.length<=1000)(hy:y∈p):
  pB (cx P aj cQ ao) z ⟨fr,os⟩=af (.ret (.ref os.length),⟨fr,os++ [.list ((pL p y).map .str)]⟩):=by
 have h':os[w]? =af (.list ((p++ [y]).map .str)):=by rw [h,cw];rfl
 refine cO (F7 (r:=[y]) 0 hy) λj h1 h2 h3=>?_;have i1:=λ(c:Cx) fr=>Bj (c:=c) (z:=z) (fr:=fr) h;have m1:=λ(c:Cx) fr=>k8 (c:=c) (z:=z) (fr:=fr) h M8;have x1:=λ(c:Cx) fr=>QP (c:=c) (z:=z) (fr:=fr) h' h1;have e:((p++ [y]).map bp).drop (0+j)=(pL p y).map .str:=by
  rw [fD,←nr,i7 (bS h2),h3];rfl
 have s1:=λ(c:Cx) fr=>pK (c:=c) (z:=z) (fr:=fr) (o:=.ref w) (λfr=>eL h' z fr) ((D6 ((p++ [y]).map bp) (0+j)).trans (congrArg af e)) (by
  unfold pL;rw [aH,aq,fP];have:=(tP (l:=p) (λa=>decide (a≠y))).length_le;exact aV (ai this hp) (ak rfl))
 (delta pB;with_reducible repeat' (first|apply hw|exact Be|apply i1|apply m1|apply x1|apply s1|exact dR _ _ _|exact br|apply bt|apply bq|apply bE|apply bO|exact aE|apply av (by decide)|exact ba|apply bg (by decide)|exact aI|apply aO|exact bA|(apply b7;apply bX)|(apply bV;focus rfl)|rfl))
theorem Lf(h:Tx t)(hz:∀j∈z,j<os.length)(oS:os[tx]? =af (.list (Bz t))):
  ∃os' v,cN P aj (n+1) (.top 244) [.ref tx] os z=af (.ret v,os')/\Hi os.length os os'/\Y5 os os' v (nV t):=by
 rw [DL];have Lr:=aX oS;have a0:=λfr=>dW (o:=.dict []) rfl z fr os;refine dx (Us (P:=P) (aj:=aj) (cQ:=cN P aj n) (z:=z) h (us:=os.length) (ax os.length) Lr bW [] [(ah "texts",.ref tx),(ah "users",.ref os.length)] (os++ [.dict []]) [] (λ_ h=>h) hz (bI oS) cK (λ_ h=>absurd h aU) (by decide) ba (bg (by decide) ba)) λiy c4 es e1 k1 g1 u1 f1 f2=>?_;rw [ey] at u1;have hi1:Hi os.length os c4:=(Hi.grow (ax _) _).trans k1;have Va:=aX g1;have s1:=λfr=>NX (P:=P) (aj:=aj) (cQ:=cN P aj n) (z:=z) (fr:=fr) (os:=os++ [qh []]);have Vw:dh ae (fQ (λv=>jD (cy P aj n) v) (bW.map .str)) z ⟨[("texts",.ref tx),("users",.ref os.length)],os++ [.dict []]⟩=_:=e1;have r2:=λfr=>wY (P:=P) (aj:=aj) (cQ:=cN P aj n) (z:=z) (fr:=fr) (os:=c4);have s2:=λfr=>H3 (P:=P) (aj:=aj) (cQ:=cN P aj n) (z:=z) (fr:=fr) (cK:(c4++ [dB 0 4 1])[c4.length]? =af (.range 0 4 1));refine dD (QV (P:=P) (aj:=aj) (cQ:=cN P aj n) (z:=z) (t:=t) (us:=os.length) (tx:=tx) (es:=es) hz 4 0 (putF iy "live" (.str "abcd")) (c4++ [.range 0 4 1]) (by rw [aq];have:=hi1.len;exact ai this (aF _ _)) (bI g1) (u1.keep λj hj=>aJ hj) (by rw [aE,NU];rfl) (av (by decide) f2) (av (by decide) f1)) λkM c7 e2 k2 f3 f4 f5=>?_;have GH:dh ae (fQ (λv=>jE (cy P aj n) v) ((cb 0 4).map λ(i:Nat)=>bD i)) z ⟨putF iy "live" (.str "abcd"),c4++ [.range 0 4 1]⟩=_:=e2;have hk1:Hi c4.length c4 c7:=(Hi.grow (ax _) [dB 0 4 1]).Lq k2;have hi2:Hi os.length os c7:=hi1.Lq hk1;rw [show (0:Nat)+4=4 from rfl] at f3;have Vb:∀y∈cG bW t 4,Sg y:=λy hy=>nG (nj y hy);have q4:=QW (os:=c7) (Ob Vb) (show eO "" =ao by rw [Eh];exact Ob λ_ h=>absurd h aU);have eq1:decide (cX (cG bW t 4)=ah "")=decide (cG bW t 4= []):=decide_eq_decide.mpr (QX Vb);rw [eq1] at q4;by_cases hL:cG bW t 4= []
 ·rw [decide_eq_true hL] at q4;have hd:nV t=ae:=by
   unfold nV;cases q:Ld t (cG bW t 4) bW with
   |nil=>rfl
   |cons a l=>
    have:a∈cG bW t 4:=El (q▸fg ..);rw [hL] at this;exact absurd this aU
  refine ⟨c7,.none,gu (fr:=kM) ?_,hi2,by rw [hd];rfl⟩;(delta uW pF pE pD pC;with_reducible repeat' (first|apply a0|apply s1|apply Vw|apply r2|apply s2|apply GH|apply f3|(apply kG;exact q4)|apply eZ|exact oB|(apply fL (by decide))|exact dR _ _ _|exact br|apply bt|apply bq|apply bE|apply bO|exact aE|apply av (by decide)|exact ba|apply bg (by decide)|exact aI|apply aO|exact bA|(apply b7;apply bX)|(apply bV;focus rfl)|rfl))
 ·rw [decide_eq_false hL] at q4;have a5:=λfr=>dW (o:=.list []) rfl z fr c7;have r6:=λfr=>wY (P:=P) (aj:=aj) (cQ:=cN P aj n) (z:=z) (fr:=fr) (os:=c7++ [.list []]);have s6:=λfr=>H3 (P:=P) (aj:=aj) (cQ:=cN P aj n) (z:=z) (fr:=fr) (cK:(c7++ [cM []]++ [dB 0 4 1])[(c7++ [cM []]).length]? =af (.range 0 4 1));have lb:os.length<=c7.length:=hi2.len;refine iA (Od (P:=P) (aj:=aj) (cQ:=cN P aj n) (z:=z) (nd:=c7.length) (us:=os.length) h hz Vb lb Lr Jz [] (putF kM "named" (.ref c7.length)) (c7++ [.list []]++ [.range 0 4 1]) (λ_ h=>h) (bI (bI (hi2.at Lr oS))) (bI cK) (by decide) (av (by decide) f3) (av (by decide) f5) aE (av (by decide) f4)) λLp iI e3 k3 g3 f6 f7 f8=>?_;have ZX:dh ae (fQ (λv=>iU (cy P aj n) v) ((cb 0 4).map λ(i:Nat)=>bD i)) z ⟨putF kM "named" (.ref c7.length),c7++ [.list []]++ [.range 0 4 1]⟩=_:=e3;rw [ey,show Jz.map (·.2)=bW from rfl] at g3;have X7:Hi c7.length c7 iI:=((Hi.grow (ax _) [cM []]).trans (Hi.grow (by rw [aq];exact aF _ _) [dB 0 4 1])).trans k3;obtain ⟨y0,hy0⟩:∃y,(Ld t (cG bW t 4) bW).head?=af y:=by
   cases q:cG bW t 4 with
   |nil=>exact absurd q hL
   |cons a l=>
    have:a∈Ld t (cG bW t 4) bW:=WI nj (q▸fg ..);rw [q] at this;cases q2:Ld t (a::l) bW with
    |nil=>rw [q2] at this;exact absurd this aU
    |cons b r=>exact ⟨b,rfl⟩
  have i0:∀(c:Cx) fr,d0 c (.ref c7.length) (.int 0) z ⟨fr,iI⟩=af (.str y0,⟨fr,iI⟩):=λc fr=>ya (c:=c) (z:=z) (fr:=fr) (k:=0) (.inl g3) (by rw [eg,←tO,hy0];rfl) (by rw [aH];have:=Uw (L:=cG bW t 4) h;exact ai this (ak rfl));have a7:=λfr=>dW (o:=.list [.str y0]) rfl z fr iI;have hy:y0∈cG bW t 4:=El (mF hy0);have X8:Hi os.length os iI:=hi2.Lq X7;have l3:=X8.len;have YF:Hi c4.length c4 iI:=hk1.Lq X7;refine dx (Uv (P:=P) (aj:=aj) (cQ:=cN P aj n) (z:=z) (t:=t) (fr:=putF Lp "way" (.ref iI.length)) (w:=iI.length) (us:=os.length) (es:=es) (λj hj=>ag (hz j hj) l3) (ag Va YF.len) ((cG bW t 4).length+1) [] y0 (iI++ [.list [.str y0]]) 200 hy dy (λ_ h=>absurd h aU) (by simp) (aV (u7 (t:=t) (k:=4)) (ak rfl)) aE (av (by decide) f8) (av (by decide) f6) cK (bI (YF.at Va g1)) (λx hx=>by
   obtain ⟨r,a,b⟩:=u1 x hx;exact ⟨r,ag (aX b) YF.len,a,bI (YF.at (aX b) b)⟩)) λyf p' y' e4 k4 g4 m4 l4 r4=>?_
  have t9:=Q2 (P:=P) (aj:=aj) (cQ:=cN P aj n) (z:=z) (fr:=putF Lp "way" (.ref iI.length)) aE g4 (ai l4 (ak rfl)) m4;have Vx:Hi os.length os yf:=X8.Lq ((Hi.grow (ax _) [cM [.str y0]]).trans k4);refine ⟨yf++ [.list ((pL p' y').map .str)],.ref yf.length,gu (fr:=putF Lp "way" (.ref iI.length)) ?_,Vx.trans (Hi.grow Vx.len _),?_⟩
  ·(delta uW pF pE pD pC uV uU uT uS;with_reducible repeat' (first|apply a0|apply s1|apply Vw|apply r2|apply s2|apply GH|apply f3|(apply kG;exact q4)|(apply ite_no;focus exact bh)|apply a5|apply r6|apply s6|apply ZX|apply f7|apply i0|apply a7|apply e4|apply t9|apply eZ|exact oB|(apply fL (by decide))|exact dR _ _ _|exact br|apply bt|apply bq|apply bE|apply bO|exact aE|apply av (by decide)|exact ba|apply bg (by decide)|exact aI|apply aO|exact bA|(apply b7;apply bX)|(apply bV;focus rfl)|rfl))
  ·unfold nV;rw [hy0];exact ⟨yf.length,rfl,by rw [←r4];exact cK,Vx.len⟩
def GL(t:Str->List Str)(k:Nat):List Str:=bW.filter λx=>decide (C0 bW t x=k)
def EV(t:Str->List Str)(l:List Str):List (Str × V):=l.map λx=>(x,bp (cX (ub bW t 4 x)))
noncomputable def Aj(b:Nat)(os:List O):List V->List (List Str)->Prop
 | [],[]=>True
 |v::vs,l::ls=>(∃i,v= .ref i/\b<=i/\os[i]? =af (.list (l.map .str)))/\Aj b os vs ls
 |_,_=>False
theorem Aj.keep(k:∀i,b<=i->i<os.length->os'[i]? =os[i]?):∀{ls:List (List Str)},Aj b os vs ls->Aj b os' vs ls:=by
 induction vs with
 |nil=>intro ls h;cases ls with|nil=>trivial|cons _ _=>exact h.elim
 |cons v vs ih=>
  intro ls h;cases ls with
  |nil=>exact h.elim
  |cons l ls=>
   obtain ⟨⟨i,e,hb,a⟩,h2⟩:=h;exact ⟨⟨i,e,hb,(k i hb (aX a)).trans a⟩,ih h2⟩
theorem Aj.snoc(hb:b<=i)(hi:os[i]? =af (.list (l.map .str))):∀{ls:List (List Str)},Aj b os vs ls->Aj b os (vs++ [.ref i]) (ls++ [l]):=by
 induction vs with
 |nil=>intro ls h;cases ls with|nil=>exact ⟨⟨i,rfl,hb,hi⟩,trivial⟩|cons _ _=>exact h.elim
 |cons v vs ih=>
  intro ls h;cases ls with
  |nil=>exact h.elim
  |cons l ls=>exact ⟨h.1,ih h.2⟩
theorem Aj.len:∀{ls:List (List Str)},Aj b os vs ls->vs.length=ls.length:=by
 induction vs with
 |nil=>intro ls h;cases ls with|nil=>rfl|cons _ _=>exact h.elim
 |cons v vs ih=>
  intro ls h;cases ls with
  |nil=>exact h.elim
  |cons l ls=>exact congrArg (· +1) (ih h.2)
theorem Gd{iv:α->V}{l:List α}{R:List O->α->V->Prop}(hb:∀uq i src,body uq i src=dh src.fz (fj (turn uq i) src.items))
  (hz:∀j∈z,j<os.length) (hf:∀j,fz=af j->j<os.length) (hN:l.length<=1000000)
  (aaa:∀c4 c7 a v,(∀j,j≠os.length->j<c4.length->c7[j]? =c4[j]?)->R c4 a v->R c7 a v)
  (step:∀z':List Nat,(∀j∈z',j<os.length)->∀a∈l,∀iy c4 xs,Hi os.length os c4->c4[os.length]? =af (.list xs)->xs.length+1<=1000000->
   ∃kM c7 v,turn (ups fr) os.length (iv a) z' ⟨iy,c4⟩=af ((),⟨kM,c7⟩)/\c7[os.length]? =af (.list (xs++ [v]))/\R c7 a v/\(∀j,j≠os.length->j<c4.length->c7[j]? =c4[j]?)/\c4.length<=c7.length):
  ∃os' vs,fc ups body ⟨l.map iv,fz⟩ z ⟨fr,os⟩=af (.ref os.length,⟨fr,os'⟩)/\os'[os.length]? =af (.list vs)/\vs.length=l.length/\(∀(k:Nat) a,l[k]? =af a->∃v,vs[k]? =af v/\R os' a v)/\Hi os.length os os':=by
 have hz':∀j∈fz.toList++z,j<os.length:=λj hj=>by
  rcases aG.mp hj with hj|hj
  ·exact hf j (yD.mp hj)
  ·exact hz j hj
 have key:∀(m d:List α) (xs:List V) (iy:eB) (c4:List O),d++m=l->xs.length=d.length->(∀(k:Nat) a,d[k]? =af a->∃v,xs[k]? =af v/\R c4 a v)->Hi os.length os c4->c4[os.length]? =af (.list xs)->
   ∃kM c7 vs,fj (turn (ups fr) os.length) (m.map iv) (fz.toList++z) ⟨iy,c4⟩=af ((),⟨kM,c7⟩)/\c7[os.length]? =af (.list vs)/\vs.length=l.length/\(∀(k:Nat) a,l[k]? =af a->∃v,vs[k]? =af v/\R c7 a v)/\Hi os.length os c7:=by
  intro m;induction m with
  |nil=>exact λd xs iy c4 e h0 h1 h2 h3=>⟨iy,c4,xs,rfl,h3,by rw [bB] at e;rw [h0,e],by rw [bB] at e;subst e;exact h1,h2⟩
  |cons a m ih=>
   intro d xs iy c4 e h0 h1 h2 h3;have hlen:d.length+1<=l.length:=by rw [←e,aq,bb];exact bF (lS _) _
   obtain ⟨kM,c7,v,e1,g1,r1,k1,l1⟩:=step _ hz' a (by rw [←e];exact cH _ (fg ..)) iy c4 xs h2 h3 (ag (aV (ar h0) hlen) hN);refine gb (ih (d++ [a]) (xs++ [v]) kM c7 (by rw [aQ];exact e) (by rw [aq,aq,h0];rfl) (λk b hk=>by
    rcases et k d.length with q|q
    ·rw [aJ q] at hk;obtain ⟨u,hu,hr⟩:=h1 k b hk;exact ⟨u,by refine (aJ (h0▸q)).trans ?_;exact hu,aaa _ _ _ _ k1 hr⟩
    ·rw [bT q] at hk;have:k=d.length:=by
      have:=(cP.mp hk).1;simp only [fP] at this;exact hV (mB (Nat.lt_one_iff.mp this)) q
     subst this;rw [mf] at hk;injection hk with hk;subst hk
     exact ⟨v,by rw [bT (ar h0),h0,mf];rfl,r1⟩) (h2.trans ⟨l1,λj hj=>k1 j (bP hj) (ag hj h2.len)⟩) g1) λLp iI vs e2 g2=>?_
   exact ⟨Lp,iI,vs,(aZ (m:=turn (ups fr) os.length (iv a)) e1).trans e2,g2⟩
 refine jV (key l [] [] [] (os++ [.list []]) rfl rfl (λk a hk=>by exact nn hk) (Hi.grow (ax _) _) cK) λkM c7 vs e g1 g2 g3 g4=>?_;refine ⟨c7,vs,?_,g1,g2,g3,g4⟩;refine xV (ej:=kM) rfl ?_;rw [hb];exact e
theorem Q3:j9 (Kw P) (.ref 239)=ao:=by kernel_rfl
theorem Q4:j9 (Kw P) (.ref 244)=ao:=by kernel_rfl
def OpR(t:Str->List Str)(b:Nat)(os:List O)(x:Str)(v:V):Prop:=∃r,v= .ref r/\r≠b/\os[r]? =af (.tuple [.int (jP bW t x 4 0).1,.str (cX (jP bW t x 4 0).2)])
theorem WJ(h:Tx t)(oS:os[tx]? =af (.list (Bz t)))(hz:∀j∈z,j<os.length)(hf:getF fr "texts" =af (.ref tx)):
  ∃os' vs,fc (λfr=>fe [(ah "texts",getF fr "texts")]) (λuq i src=>xS (cy P aj (n+1)) uq i src) ⟨bW.map .str,ae⟩ z ⟨fr,os⟩=af (.ref os.length,⟨fr,os'⟩)/\os'[os.length]? =af (.list vs)/\vs.length=bW.length/\(∀(k:Nat) a,bW[k]? =af a->∃v,vs[k]? =af v/\OpR t os.length os' a v)/\Hi os.length os os':=
 Gd (turn:=λuq i v=>te (cy P aj (n+1)) uq i v) (R:=OpR t os.length) (λ_ _ _=>rfl) hz (λ_ h=>by injection h) (by decide)
  (λc4 c7 a v k ⟨r,e,h1,h2⟩=>⟨r,e,h1,(k r h1 (aX h2)).trans h2⟩)
  (λz' hz' a ha iy c4 xs h1 h2 hN=>by
   have hacc:os.length∉z':=λq=>aW _ (hz' _ q);have Co:=aX h2;have hu:getF (fe [(ah "texts",getF fr "texts")]) "texts" =af (.ref tx):=by rw [hf];exact ba
   have l2:=λs=>iL (z:=z') (s:=s) hu;refine ck (H5 (P:=P) (aj:=aj) (z:=z') (os:=c4) (n:=n) h ha (λj hj=>aD (hz' j hj) Co) (h1.at (aX oS) oS)) λc7 r e1 k1 g1=>?_;have c1:=λfr as=>gR (P:=P) (aj:=aj) (cQ:=cN P aj (n+1)) (z:=z') (fr:=fr) (os:=c4) (as:=as) Q3;have h2':=k1.at Co h2;have p1:=λ(c:Cx) fr=>gV (c:=c) h2' hacc hN (.ref r) fr;have hr:r≠os.length:=λq=>by subst q;rw [h2'] at g1;cases g1
   refine ⟨putF iy "name" (.str a),c7.set os.length (.list (xs++ [.ref r])),.ref r,?_,dA h2',⟨r,rfl,hr,bC g1 λq=>hr q.symm⟩,λj hj hl=>(bH λq=>hj q.symm).trans (k1.keep j hl),by rw [dI];exact k1.len⟩;(delta te;with_reducible repeat' (first|apply l2|(apply gA;apply c1)|apply e1|apply p1|exact dR _ _ _|exact br|apply bt|apply bq|apply bE|apply bO|exact aE|apply av (by decide)|exact ba|apply bg (by decide)|exact aI|apply aO|exact bA|(apply b7;apply bX)|(apply bV;focus rfl)|rfl)))
def dG(t:Str->List Str)(ks:List Nat):List (List Str):=(ks.map (GL t)).filter λl=>decide (l≠ [])
def dK(t:Str->List Str)(ks:List Nat):List Str:=ks.flatMap (GL t)
def Oe(t:Str->List Str)(b:Nat)(os:List O)(op:Nat):Prop:=op<b/\∃vs,os[op]? =af (.list vs)/\vs.length=4/\∀(k:Nat) a,bW[k]? =af a->∃r,r<b/\vs[k]? =af (.ref r)/\os[r]? =af (.tuple [.int (jP bW t a 4 0).1,.str (cX (jP bW t a 4 0).2)])
theorem Oe.keep{op:Nat}(h:Oe t b os op)(hk:∀j o,j<b->os[j]? =af o->(∃xs,o= .list xs/\xs.length=4/\j=op)∨(∃xs,o= .tuple xs)->os'[j]? =af o):Oe t b os' op:=by
 refine dZ h λh0 r'1=>?_;refine cO r'1 λvs h1 h2 h3=>?_;refine ⟨h0,vs,hk op _ h0 h1 (.inl ⟨vs,rfl,h2,rfl⟩),h2,λk a e=>?_⟩;refine cO (h3 k a e) λr a0 a1 a2=>?_;exact ⟨r,a0,a1,hk r _ a0 a2 (.inr ⟨_,rfl⟩)⟩
theorem zJ(h:x∈GL t k):x∈bW/\C0 bW t x=k:=⟨(bL.mp h).1,iK (bL.mp h).2⟩
theorem ju:bW.Nodup:=by decide
theorem Ge:(GL t k).Nodup:=iP.nodup ju
theorem Ux:(GL t k).length<=4:=cJ ..
theorem WK{op:Nat}(ho:Oe t b os op)(hz:∀j∈z,j<os.length)(hf1:getF fr "opened" =af (.ref op))(hf2:getF fr "times" =af (.int k))(hb:b<=os.length):
  ∃os',fc (λfr=>fe [(ah "opened",getF fr "opened"),(ah "times",getF fr "times")]) (λuq i src=>tf (cx P aj cQ ao) uq i src) ⟨(cb 0 4).map λ(i:Nat)=>bD i,ae⟩ z ⟨fr,os⟩=af (.ref os.length,⟨fr,os'⟩)/\os'[os.length]? =af (.list ((GL t k).map .str))/\Hi os.length os os':=by
 refine dZ ho λh0 r'2=>?_;refine cO r'2 λvs hv1 hv2 Vd=>?_;have hlen:(Jz.flatMap λp=>if C0 bW t p.2=k then [bp p.2] else []).length<=1000000:=by
  have h1:∀p:Nat × Str,(if C0 bW t p.2=k then [bp p.2] else []).length<=1:=λp=>by split<;>simp
  have h2:∀l:List (Nat × Str),(l.flatMap λp=>if C0 bW t p.2=k then [bp p.2] else []).length<=l.length:=by
   intro l;induction l with
   |nil=>exact ax _
   |cons a l ih=>rw [bz,aq,bb];have:=h1 a;exact Yl this ih
  exact ai (h2 Jz) (by decide)
 refine cO (iV (fr:=fr) (os:=os) (z:=z) (ups:=λfr=>fe [(ah "opened",getF fr "opened"),(ah "times",getF fr "times")]) (body:=λuq i src=>tf (cx P aj cQ ao) uq i src) (turn:=λuq i v=>oA (cx P aj cQ ao) uq i v) (fz:=none) (iv:=λp:Nat × Str=>bD p.1) (f:=λp=>if C0 bW t p.2=k then [bp p.2] else []) (l:=Jz) (λ_ _ _=>rfl) hz (λ_ h=>by injection h) hlen
  (λz' hz' a ha iy c4 xs h1 h2 hN=>by
   have hat:=Ek a ha;have hacc:os.length∉z':=λq=>aW _ (hz' _ q);have u1:getF (fe [(ah "opened",getF fr "opened"),(ah "times",getF fr "times")]) "opened" =af (.ref op):=by rw [hf1,hf2];exact ba
   have u2:getF (fe [(ah "opened",getF fr "opened"),(ah "times",getF fr "times")]) "times" =af (.int k):=by rw [hf1,hf2];exact bg (by decide) ba
   have l1:=λs=>iL (z:=z') (s:=s) u1;have l2:=λs=>iL (z:=z') (s:=s) u2;obtain ⟨r,r0,r1,r2⟩:=Vd a.1 a.2 hat;have i1:=λ(c:Cx) fr=>ya (c:=c) (z:=z') (fr:=fr) (.inl (h1.at (ag h0 hb) hv1)) r1 (ai (ar hv2) (ak rfl));have i2:∀(c:Cx) fr,d0 c (.ref r) (.int 0) z' ⟨fr,c4⟩=af (.int (jP bW t a.2 4 0).1,⟨fr,c4⟩):=λc fr=>ya (c:=c) (z:=z') (fr:=fr) (k:=0) (.inr (h1.at (ag r0 hb) r2)) rfl (dH 2 999998);have q1:=eq_int (a:=((jP bW t a.2 4 0).1:Nat)) (b:=(k:Nat)) c4;have i3:=λ(c:Cx) (s:eP)=>QQ (c:=c) (z:=z') (s:=s) hat;by_cases q:C0 bW t a.2=k
   ·rw [decide_eq_true (show (((jP bW t a.2 4 0).1:Nat):Int)=(k:Nat) from congrArg _ q)] at q1;simp only [if_pos q] at hN ⊢;have p1:=λ(c:Cx) fr=>gV (c:=c) h2 hacc hN (.str a.2) fr;refine ⟨putF iy "i" (.int a.1),c4.set os.length (.list (xs++ [.str a.2])),?_,dA h2,h1.trans (Hi.set (ax _) _)⟩;(delta oA;with_reducible repeat' (first|apply l1|apply l2|apply i1|apply i2|(apply kG;exact q1)|apply i3|apply p1|exact dR _ _ _|exact br|apply bt|apply bq|apply bE|apply bO|exact aE|apply av (by decide)|exact ba|apply bg (by decide)|exact aI|apply aO|exact bA|(apply b7;apply bX)|(apply bV;focus rfl)|rfl))
   ·rw [decide_eq_false (show¬(((jP bW t a.2 4 0).1:Nat):Int)=(k:Nat) from λe=>q (kW e))] at q1;simp only [if_neg q,bB] at hN ⊢;refine ⟨putF iy "i" (.int a.1),c4,?_,h2,h1⟩;(delta oA;with_reducible repeat' (first|apply l1|apply l2|apply i1|apply i2|(apply kG;exact q1)|(apply ite_no;focus exact bh)|exact dR _ _ _|exact br|apply bt|apply bq|apply bE|apply bO|exact aE|apply av (by decide)|exact ba|apply bg (by decide)|exact aI|apply aO|exact bA|(apply b7;apply bX)|(apply bV;focus rfl)|rfl)))) λos' e g1 g2=>?_
 refine ⟨os',e,g1.trans ?_,g2⟩;congr 2;have:=qJ (λi=>C0 bW t i=k) bp bW;unfold GL;rw [←this];rfl
theorem Em(h:x∉l):jY (EV t l) x (.str (cX (ub bW t 4 x)))=EV t (l++ [x]):=by
 rw [FN]
 ·unfold EV;refine cw▸ ?_;rfl
 ·unfold EV;rw [dk];intro q;refine aR (aT.mp q) λy hy e=>?_;exact h (e▸hy)
theorem En:(EV t l).length=l.length:=aH ..
theorem Of{op vd:Nat}(X9:vd∉z)(Yb:vd<b):∀(m l:List Str) (fr:eB) (os:List O),(∀x∈m,x∈bW/\C0 bW t x<4)->(l++m).Nodup->(l++m).length<=1000->Oe t b os op->os[vd]? =af (.dict (EV t l))->getF fr "opened" =af (.ref op)->getF fr "values" =af (.ref vd)->
  ∃ej os',fQ (λv=>ko (cx P aj cQ ao) v) (m.map .str) z ⟨fr,os⟩=af (.next,⟨ej,os'⟩)/\os'.length=os.length/\(∀j,j≠vd->os'[j]? =os[j]?)/\os'[vd]? =af (.dict (EV t (l++m)))/\(∀k,k≠ah "name" ->getF ej k=getF fr k):=by
 intro m;induction m with
 |nil=>exact λl fr os _ _ _ _ h1 _ _=>⟨fr,os,rfl,rfl,λ_ _=>rfl,by rw [bB];exact h1,λ_ _=>rfl⟩
 |cons x m ih=>
  intro l fr os hm nd hl ho hd hf1 hf2;obtain ⟨hx,hlv⟩:=hm x (fg ..);obtain ⟨kx,hkx⟩:=NY hx;have ho':=ho;refine dZ ho λh0 r'3=>?_;refine cO r'3 λvs hv1 hv2 Vd=>?_;refine cO (Vd kx x hkx) λr r0 r1 r2=>?_;have Yc:x∉l:=λq=>(bk.mp nd).2.2 x q x (fg ..) rfl;have m1:=λ(c:Cx) fr=>ru (c:=c) (z:=z) (fr:=fr) (os:=os) (x:=ah "abcd") y8;have s1:=λ(c:Cx) (s:eP)=>By (c:=c) (z:=z) (s:=s) hkx;have i1:=λ(c:Cx) fr=>ya (c:=c) (z:=z) (fr:=fr) (.inl hv1) r1 (ai (ar hv2) (ak rfl));have ev:(jP bW t x 4 0).2=ub bW t 4 x:=by exact congrArg _ (NP hlv)
  have i2:∀(c:Cx) fr,d0 c (.ref r) (.int 1) z ⟨fr,os⟩=af (.str (cX (ub bW t 4 x)),⟨fr,os⟩):=λc fr=>by
   refine (ev).symm▸ ?_;exact ya (c:=c) (z:=z) (fr:=fr) (k:=1) (.inr r2) rfl (dH 2 999998)
  have ll:l.length<=999:=by rw [aq,bb] at hl;exact eY (RE hl)
  have u1:=λ(c:Cx) fr=>xX (c:=c) (z:=z) (fr:=fr) (k:=x) (v:=.str (cX (ub bW t 4 x))) hd X9 (by rw [Em Yc,En,aq];simp;exact ai ll (ak rfl));rw [Em Yc] at u1;have st:ko (cx P aj cQ ao) (.str x) z ⟨fr,os⟩=af (.next,⟨putF fr "name" (.str x),os.set vd (.dict (EV t (l++ [x])))⟩):=by
   (delta ko;with_reducible repeat' (first|apply hf1|apply hf2|apply m1|apply s1|apply i1|apply i2|apply u1|exact dR _ _ _|exact br|apply bt|apply bq|apply bE|apply bO|exact aE|apply av (by decide)|exact ba|apply bg (by decide)|exact aI|apply aO|exact bA|(apply b7;apply bX)|(apply bV;focus rfl)|rfl))
  refine dD (ih (l++ [x]) (putF fr "name" (.str x)) (os.set vd (.dict (EV t (l++ [x])))) (λy hy=>hm y (i8 _ hy)) (by rw [aQ];exact nd) (by rw [aQ];exact hl) (ho'.keep λj o hj e hh=>bC e λq=>by
   subst q;rw [hd] at e;injection e with e
   rcases hh with ⟨xs,h1,_⟩|⟨xs,h1⟩
   ·rw [←e] at h1;injection h1
   ·rw [←e] at h1;injection h1) (dA hd) (av (by decide) hf1) (av (by decide) hf2)) λej os' e2 a1 a2 a3 a4=>?_
  refine ⟨ej,os',?_,by (refine (a1).trans ?_;exact (dI)),λj hj=>(a2 j hj).trans (bH λq=>hj q.symm),?_,λk hk=>(a4 k hk).trans ?_⟩
  ·refine bx▸ ?_;exact (ig (turn:=λv=>ko (cx P aj cQ ao) v) st).trans e2
  ·rw [aQ] at a3;exact a3
  ·rw [b9,if_neg hk]
def Uy(k:Str):Prop:=k≠ah "times" /\k≠ah "group" /\k≠ah "name"
theorem WL{op gr vd:Nat}{gs:List V}{ls:List (List Str)}(hk:k<4)(hz:∀j∈z,j<os.length)(Ve:gr∉z)(Vf:vd∉z)(hgb:gr<b)(Yb:vd<b)(RA:gr≠vd)(hb:b<=os.length)(ho:Oe t b os op)(hgo:gr≠op)(hg:os[gr]? =af (.list gs))(hG:Aj b os gs ls)(Vr:gs.length<=1000)(hv:os[vd]? =af (.dict (EV t l)))(nd:(l++GL t k).Nodup)(hll:l.length<=900)
  (hf1:getF fr "opened" =af (.ref op)) (hf2:getF fr "groups" =af (.ref gr)) (JQ:getF fr "values" =af (.ref vd)) (Yd:∀r,r<b->(∃xs,os[r]? =af (.tuple xs))->r≠gr):
  ∃ej os' gs',jb (cx P aj cQ ao) (.int k) z ⟨fr,os⟩=af (.next,⟨ej,os'⟩)/\os.length<=os'.length/\(∀j,j<os.length->j≠gr->j≠vd->os'[j]? =os[j]?)/\os'[gr]? =af (.list gs')/\Aj b os' gs' (ls++if GL t k= [] then [] else [GL t k])/\os'[vd]? =af (.dict (EV t (l++GL t k)))/\(∀q,Uy q->getF ej q=getF fr q):=by
 have r1:=λfr=>wY (P:=P) (aj:=aj) (cQ:=cQ) (z:=z) (fr:=fr) (os:=os);have s1:=λfr=>H3 (P:=P) (aj:=aj) (cQ:=cQ) (z:=z) (fr:=fr) (cK:(os++ [dB 0 4 1])[os.length]? =af (.range 0 4 1));have hi0:Hi os.length os (os++ [.range 0 4 1]):=Hi.grow (ax _) _;have ho0:Oe t b (os++ [.range 0 4 1]) op:=ho.keep λj o hj e _=>bI e;refine cO (WK (P:=P) (aj:=aj) (cQ:=cQ) (z:=z) (os:=os++ [.range 0 4 1]) (fr:=putF fr "times" (.int k)) (k:=k) ho0 (λj hj=>ag (hz j hj) hi0.len) (av (by decide) hf1) aE (ai hb hi0.len)) λc4 e1 g1 k1=>?_;have hi1:Hi os.length os c4:=hi0.Lq k1;have lg:os.length<=(os++ [dB 0 4 1]).length:=hi0.len;have a2:=λfr=>dW (o:=.list []) rfl z fr c4;have q1:=eq_nil (os:=c4++ [.list []]) (bI g1) cK (Ej λx hx=>nG (zJ hx).1);have lgr:=aX hg;have YG:=aX hv;have YH:(c4++ [cM []])[gr]? =af (.list gs):=bI (hi1.at lgr hg);have m1:=λ(c:Cx) fr=>k8 (c:=c) (z:=z) (fr:=fr) YH mK;have p1:=λ(c:Cx) fr=>pH (c:=c) (z:=z) (fr:=fr) (v:=.ref (os++ [dB 0 4 1]).length) YH Ve (aV Vr (ak rfl));have ll4:=Ux (t:=t) (k:=k);obtain ⟨iI,gs',XY,aab,hst,hlen3,X7⟩:∃(iI:List O) (gs':List V),iI[gr]? =af (.list gs')/\Aj b iI gs' (ls++if GL t k= [] then [] else [GL t k])/\((GL t k= []/\iI=c4++ [.list []])∨(GL t k≠ []/\iI=(c4++ [cM []]).set gr (cM (gs++ [ir (os++ [dB 0 4 1]).length]))))/\(c4++ [cM []]).length=iI.length/\(∀j,j≠gr->iI[j]? =(c4++ [cM []])[j]?):=by
  have hG2:Aj b (c4++ [cM []]) gs ls:=hG.keep λi _ hi=>(aJ (ag hi hi1.len)).trans (hi1.keep i hi);by_cases q:GL t k= []
  ·exact ⟨_,gs,YH,by rw [if_pos q,bB];exact hG2,.inl ⟨q,rfl⟩,rfl,λ_ _=>rfl⟩
  ·refine ⟨_,gs++ [.ref (os++ [dB 0 4 1]).length],dA YH,?_,.inr ⟨q,rfl⟩,(dI ..).symm,λj hj=>bH λe=>hj e.symm⟩;rw [if_neg q];have hG3:Aj b ((c4++ [cM []]).set gr (.list (gs++ [.ref (os++ [dB 0 4 1]).length]))) gs ls:=hG2.keep λi hi _=>bH (bP (ag hgb hi));exact hG3.snoc (ai hb lg) (bC (bI g1) (bP (ag lgr lg)))
 have hold:∀j,j<os.length->j≠gr->iI[j]? =os[j]? :=λj hj hne=>(X7 j hne).trans ((aJ (ag hj hi1.len)).trans (hi1.keep j hj));have aac:iI[(os++ [dB 0 4 1]).length]? =af (.list ((GL t k).map .str)):=(X7 _ (eM (ag lgr lg))).trans (bI g1);have s3:=λfr=>src_list (P:=P) (aj:=aj) (cQ:=cQ) (z:=z) (fr:=fr) aac;have ho3:Oe t b iI op:=ho.keep λj o hj e hh=>(hold j (ag hj hb) (by
  rcases hh with ⟨_,_,_,rfl⟩|⟨xs,rfl⟩
  ·exact λq=>hgo q.symm
  ·exact Yd j hj ⟨xs,e⟩)).trans e
 refine dD (Of (P:=P) (aj:=aj) (cQ:=cQ) (z:=(os++ [dB 0 4 1]).length::z) (b:=b) (op:=op) (vd:=vd) (λq=>by
  rcases jJ q with q|q
  ·exact aW _ (ag YG (ai lg (ar q.symm)))
  ·exact Vf q) Yb (GL t k) l (putF (putF fr "times" (.int k)) "group" (.ref (os++ [dB 0 4 1]).length)) iI (λx hx=>⟨(zJ hx).1,by rw [(zJ hx).2];exact hk⟩) nd (by rw [aq];exact qk (dS hll ll4) rfl) ho3 ((hold vd YG (λq=>RA q.symm)).trans hv) (av (by decide) (av (by decide) hf1)) (av (by decide) (av (by decide) JQ))) λfr4 yf e4 n4 k4 d4 f4=>?_
 have e4':dh (af (os++ [dB 0 4 1]).length) (fQ (λv=>ko (cx P aj cQ ao) v) ((GL t k).map .str)) z ⟨putF (putF fr "times" (.int k)) "group" (.ref (os++ [dB 0 4 1]).length),iI⟩=_:=e4;have fin:os.length<=yf.length/\(∀j,j<os.length->j≠gr->j≠vd->yf[j]? =os[j]?)/\yf[gr]? =af (.list gs')/\Aj b yf gs' (ls++if GL t k= [] then [] else [GL t k])/\yf[vd]? =af (.dict (EV t (l++GL t k)))/\(∀q,Uy q->getF fr4 q=getF fr q):=
  ⟨by rw [n4,←hlen3,aq];have:=hi1.len;exact ai this (aF _ _),λj h1 h2 h3=>(k4 j h3).trans (hold j h1 h2),(k4 gr RA).trans XY,aab.keep λi hi _=>k4 i (eM (ag Yb hi)),d4,λq hq=>(f4 q hq.2.2).trans (by rw [b9,if_neg hq.2.1,b9,if_neg hq.1])⟩
 refine ⟨fr4,yf,gs',?_,fin⟩;rcases hst with ⟨q,rfl⟩|⟨q,rfl⟩
 ·rw [decide_eq_true q] at q1;(delta jb;with_reducible repeat' (first|apply r1|apply s1|apply e1|apply a2|(apply yX;exact q1)|(apply ite_no;focus exact Ut)|apply s3|apply e4'|exact dR _ _ _|exact br|apply bt|apply bq|apply bE|apply bO|exact aE|apply av (by decide)|exact ba|apply bg (by decide)|exact aI|apply aO|exact bA|(apply b7;apply bX)|(apply bV;focus rfl)|rfl))
 ·rw [decide_eq_false q] at q1;(delta jb;with_reducible repeat' (first|apply hf2|apply r1|apply s1|apply e1|apply a2|(apply yX;exact q1)|(apply bV;focus exact WH)|apply m1|apply p1|apply s3|apply e4'|exact dR _ _ _|exact br|apply bt|apply bq|apply bE|apply bO|exact aE|apply av (by decide)|exact ba|apply bg (by decide)|exact aI|apply aO|exact bA|(apply b7;apply bX)|(apply bV;focus rfl)|rfl))
def H7(os:List O)(d:V)(rg:Option (List Str))(G:List (List Str))(es:List (Str × V)):Prop:=∃i v1 v2 g m gs,d= .ref i/\os[i]? =af (.tuple [v1,v2,.ref g,.ref m])/\ed os 7 v1=af (F6 rg)/\ed os 7 v2=af (C3 rg)/\os[g]? =af (.list gs)/\Aj 0 os gs G/\os[m]? =af (.dict es)
theorem Aj.low:∀{ls:List (List Str)},Aj b os vs ls->Aj 0 os vs ls:=by
 induction vs with
 |nil=>intro ls h;cases ls with|nil=>trivial|cons _ _=>exact h.elim
 |cons v vs ih=>
  intro ls h;cases ls with
  |nil=>exact h.elim
  |cons l ls=>
   obtain ⟨⟨i,e,hb,a⟩,h2⟩:=h;exact ⟨⟨i,e,fm _,a⟩,ih h2⟩
theorem H8:x∈dK t ks↔x∈bW/\C0 bW t x∈ks:=by
 unfold dK;rw [cI];constructor
 ·rintro ⟨k,hk,hx⟩;obtain ⟨a,b⟩:=zJ hx;exact ⟨a,b▸hk⟩
 ·rintro ⟨a,b⟩;exact ⟨_,b,bL.mpr ⟨a,decide_eq_true rfl⟩⟩
theorem BB(h:ks.Nodup):(dK t ks).Nodup:=by
 induction ks with
 |nil=>exact dy
 |cons k ks ih=>
  have h':=bu.mp h;show (GL t k++dK t ks).Nodup;refine bk.mpr ⟨Ge,ih h'.2,λa ha b hb e=>?_⟩;subst e;exact h'.1 ((zJ ha).2▸(H8.mp hb).2)
theorem JB:dK t (ks++ [k])=dK t ks++GL t k:=by
 unfold dK;rw [ot,jn]
theorem Q5:dG t (ks++ [k])=dG t ks++if GL t k= [] then [] else [GL t k]:=by
 unfold dG;rw [cw,qd];congr 1;show [GL t k].filter _=_;by_cases q:GL t k= []
 ·rw [if_pos q,b6 (by simpa using q)];rfl
 ·rw [if_neg q,cu (by simpa using q)];rfl
theorem Uz(h:ks.Nodup):(dK t ks).length<=4:=jt (BB h) λx hx=>(H8.mp hx).1
theorem UA:(dG t ks).length<=ks.length:=ai (cJ ..) (by rw [aH];exact ax _)
theorem UB{op gr vd:Nat}(Ve:gr∉z)(Vf:vd∉z)(hgb:gr<b)(Yb:vd<b)(RA:gr≠vd)(hgo:gr≠op)(Il:vd≠op)(Yd:∀r,r<b->∀os:List O,(∃xs,os[r]? =af (.tuple xs))->(∃ys,os[gr]? =af (.list ys))->(∃es,os[vd]? =af (.dict es))->r≠gr/\r≠vd):∀(m k:Nat) (fr:eB) (os:List O) (gs:List V),k+m=4->(∀j∈z,j<os.length)->b<=os.length->Oe t b os op->os[gr]? =af (.list gs)->Aj b os gs (dG t (cb 0 k))->os[vd]? =af (.dict (EV t (dK t (cb 0 k))))->getF fr "opened" =af (.ref op)->getF fr "groups" =af (.ref gr)->getF fr "values" =af (.ref vd)->
  ∃ej os' gs',fQ (λv=>jb (cx P aj cQ ao) v) ((cb k m).map λ(i:Nat)=>bD i) z ⟨fr,os⟩=af (.next,⟨ej,os'⟩)/\os.length<=os'.length/\(∀j,j<os.length->j≠gr->j≠vd->os'[j]? =os[j]?)/\os'[gr]? =af (.list gs')/\Aj b os' gs' (dG t (cb 0 4))/\os'[vd]? =af (.dict (EV t (dK t (cb 0 4))))/\(∀q,Uy q->getF ej q=getF fr q):=by
 intro m;induction m with
 |zero=>intro k fr os gs hk _ _ _ h1 h2 h3 _ _ _;obtain rfl:k=4:=hk;exact ⟨fr,os,gs,rfl,ax _,λ_ _ _ _=>rfl,h1,h2,h3,λ_ _=>rfl⟩
 |succ m ih=>
  intro k fr os gs hk hz hb ho hg hG hv hf1 hf2 JQ;have hnd:(cb 0 (k+1)).Nodup:=qT ..;have hrc:cb 0 (k+1)=cb 0 k++ [k]:=by rw [List.range'_1_concat,fD]
  have gl:=hG.len;have gl2:=UA (t:=t) (ks:=cb 0 k);rw [List.length_range'] at gl2;have kl:=Uz (t:=t) (qT (s:=0) (n:=k) (step:=1));refine dx (WL (P:=P) (aj:=aj) (cQ:=cQ) (z:=z) (k:=k) (Vk hk) hz Ve Vf hgb Yb RA hb ho hgo hg hG (ai (ai (ai (ar gl) gl2) (cL hk)) (ak rfl)) hv (by rw [←JB,←hrc];exact BB hnd) (ai kl (ak rfl)) hf1 hf2 JQ λr hr hx=>(Yd r hr os hx ⟨_,hg⟩ ⟨_,hv⟩).1) λiy c4 Vy e1 l1 k1 g1 G1 r'1=>?_;refine dZ r'1 λv1 f1=>?_;rw [←Q5,←hrc] at G1;rw [←JB,←hrc] at v1;have ho1:Oe t b c4 op:=ho.keep λj o hj e hh=>(k1 j (ag hj hb) (by
   rcases hh with ⟨_,_,_,rfl⟩|⟨xs,rfl⟩
   ·exact λq=>hgo q.symm
   ·exact (Yd j hj os ⟨xs,e⟩ ⟨_,hg⟩ ⟨_,hv⟩).1) (by
   rcases hh with ⟨_,_,_,rfl⟩|⟨xs,rfl⟩
   ·exact λq=>Il q.symm
   ·exact (Yd j hj os ⟨xs,e⟩ ⟨_,hg⟩ ⟨_,hv⟩).2)).trans e
  refine dx (ih (k+1) iy c4 Vy ((aN _ _ _).trans hk) (λj hj=>ag (hz j hj) l1) (ai hb l1) ho1 g1 G1 v1 ((f1 _ ⟨by decide,by decide,by decide⟩).trans hf1) ((f1 _ ⟨by decide,by decide,by decide⟩).trans hf2) ((f1 _ ⟨by decide,by decide,by decide⟩).trans JQ)) λkM c7 Ye e2 l2 k2 g2 G2 r'2=>?_;refine dZ r'2 λv2 f2=>?_;refine ⟨kM,c7,Ye,?_,ai l1 l2,λj h1 h2 h3=>(k2 j (ag h1 l1) h2 h3).trans (k1 j h1 h2 h3),g2,G2,v2,λq hq=>(f2 q hq).trans (f1 q hq)⟩;rw [kr,bx];exact (ig (turn:=λv=>jb (cx P aj cQ ao) v) e1).trans e2
theorem Og(h:Tx t)(hz:∀j∈z,j<os.length)(oS:os[tx]? =af (.list (Bz t))):
  ∃os' d,cN P aj (n+2) (.top 249) [.ref tx] os z=af (.ret d,os')/\Hi os.length os os'/\H7 os' d (nV t) (dG t (cb 0 4)) (EV t (dK t (cb 0 4))):=by
 rw [Fu];have Lr:=aX oS;refine ck (Lf (P:=P) (aj:=aj) (z:=z) (os:=os) (n:=n) h hz oS) λc4 v1 e1 k1 r1=>?_;have c1:=λfr as=>gR (P:=P) (aj:=aj) (cQ:=cN P aj (n+1)) (z:=z) (fr:=fr) (os:=os) (as:=as) Q4;have OQ:=k1.at Lr oS;have s2:=λfr=>NX (P:=P) (aj:=aj) (cQ:=cN P aj (n+1)) (z:=z) (fr:=fr) (os:=c4);have hz1:∀j∈z,j<c4.length:=λj hj=>ag (hz j hj) k1.len;refine dD (WJ (P:=P) (aj:=aj) (z:=z) (os:=c4) (n:=n) (fr:=[(ah "texts",.ref tx),(ah "ring",v1)]) h OQ hz1 ba) λc7 vs e2 g2 n2 o2 k2=>?_;have a3:=λfr=>dW (o:=.list []) rfl z fr c7;have a4:=λfr=>dW (o:=.dict []) rfl z fr (c7++ [.list []]);have l12:=k2.len;have Vz:=k1.len;have Ly:=aX g2;have r5:=λfr=>wY (P:=P) (aj:=aj) (cQ:=cN P aj (n+1)) (z:=z) (fr:=fr) (os:=c7++ [.list []]++ [.dict []]);have s5:=λfr=>H3 (P:=P) (aj:=aj) (cQ:=cN P aj (n+1)) (z:=z) (fr:=fr) (cK:(c7++ [cM []]++ [qh []]++ [dB 0 4 1])[(c7++ [cM []]++ [qh []]).length]? =af (.range 0 4 1));have L3:(c7++ [cM []]).length=c7.length+1:=by rw [aq];rfl
 have L4:(c7++ [cM []]++ [qh []]).length=c7.length+2:=by rw [aq,L3];rfl
 have L5:(c7++ [cM []]++ [qh []]++ [dB 0 4 1]).length=c7.length+3:=by rw [aq,L4];rfl
 have hop:Oe t (c7.length+2) (c7++ [cM []]++ [qh []]++ [dB 0 4 1]) c4.length:=⟨ag Ly (aF _ _),vs,bI (bI (bI g2)),n2,λk a e=>by
  refine aR (o2 k a e) λv hv r'3=>?_;refine cO r'3 λr q1 q2 q3=>?_;subst q1;exact ⟨r,ag (aX q3) (aF _ _),hv,bI (bI (bI q3))⟩⟩
 have hgr:(c7++ [cM []]++ [qh []]++ [dB 0 4 1])[c7.length]? =af (.list []):=bI (bI cK);have X9:(c7++ [cM []]++ [qh []]++ [dB 0 4 1])[c7.length+1]? =af (.dict (EV t (dK t (cb 0 0)))):=by
  have:(c7++ [cM []]++ [qh []])[(c7++ [cM []]).length]? =af (.dict []):=cK;rw [L3] at this;exact bI this
 refine dx (UB (P:=P) (aj:=aj) (cQ:=cN P aj (n+1)) (z:=z) (t:=t) (b:=c7.length+2) (op:=c4.length) (gr:=c7.length) (vd:=c7.length+1) (λq=>aW _ (ag (hz _ q) (bS (aV Vz Ly)))) (λq=>aW _ (ag (jh (hz _ q)) (bS (aV Vz Ly)))) (sA (by decide)) (bU _) (bP (bU _)) (eM Ly) (eM (aD Ly (bU _)))
  (λr _ os ⟨xs,hx⟩ ⟨ys,hy⟩ ⟨es,he⟩=>⟨(λq=>by subst q;rw [hx] at hy;injection hy with hy;injection hy),(λq=>by subst q;rw [hx] at he;injection he with he;injection he)⟩) 4 0 [(ah "texts",.ref tx),(ah "ring",v1),(ah "opened",.ref c4.length),(ah "groups",.ref c7.length),(ah "values",.ref (c7.length+1))] (c7++ [.list []]++ [.dict []]++ [.range 0 4 1]) [] rfl (λj hj=>ag (aD (ag (hz j hj) Vz) Ly) (cL L5.symm)) (eN (ar L5.symm)) hop hgr trivial X9
  (bg (by decide) (bg (by decide) ba)) (bg (by decide) (bg (by decide) (bg (by decide) ba))) (bg (by decide) (bg (by decide) (bg (by decide) (bg (by decide) ba))))) λOT sL YI e6 l6 k6 g6 G6 r'4=>?_;refine dZ r'4 λv6 f6=>?_
 rw [L5] at l6 k6;have SA:getF OT "ring" =af v1:=(f6 _ ⟨by decide,by decide,by decide⟩).trans (bg (by decide) ba);have ggr:getF OT "groups" =af (.ref c7.length):=(f6 _ ⟨by decide,by decide,by decide⟩).trans (bg (by decide) (bg (by decide) (bg (by decide) ba)));have YJ:getF OT "values" =af (.ref (c7.length+1)):=(f6 _ ⟨by decide,by decide,by decide⟩).trans (bg (by decide) (bg (by decide) (bg (by decide) (bg (by decide) ba))));have e6':dh ae (fQ (λv=>jb (cy P aj (n+1)) v) ((cb 0 4).map λ(i:Nat)=>bD i)) z ⟨[("texts",.ref tx),("ring",v1),("opened",.ref c4.length),("groups",.ref c7.length),("values",.ref (c7.length+1))],c7++ [.list []]++ [.dict []]++ [.range 0 4 1]⟩=_:=e6;rw [L3] at a4;have hold:∀j,j<c7.length->sL[j]? =c7[j]? :=λj hj=>(k6 j (ag hj (aF _ _)) (bP hj) (bP (aD hj (bU _)))).trans ((aJ (ag hj (cL L4.symm))).trans ((aJ (aD hj (ar L3.symm))).trans (aJ hj)));have SD:Hi os.length os sL:=⟨bS (ag (aV Vz Ly) (dU l6)),λj hj=>(hold j (aD (ag hj Vz) Ly)).trans ((k2.keep j (ag hj Vz)).trans (k1.keep j hj))⟩;have dv1:∀os7:List O,(∀j,j<sL.length->os7[j]? =sL[j]?)->ed os7 7 v1=af (F6 (nV t)):=λos7 h7=>y7 (os:=c4) (λj hj=>(h7 j (ag (aD hj Ly) (dU l6))).trans ((hold j (aD hj Ly)).trans (k2.keep j hj))) (QO r1);induction hr:nV t using aw with
 |none=>
  rw [hr] at r1 dv1;obtain rfl:v1= .none:=r1;have a7:=λfr=>dW (o:=.tuple [.none,.none,.ref c7.length,.ref (c7.length+1)]) rfl z fr sL;refine ⟨sL++ [.tuple [.none,.none,.ref c7.length,.ref (c7.length+1)]],.ref sL.length,gu (fr:=OT) ?_,SD.trans (Hi.grow SD.len _),sL.length,.none,.none,c7.length,c7.length+1,YI,rfl,cK,rfl,rfl,bI g6,(G6.keep λi _ hi=>aJ hi).low,bI v6⟩;(delta wR rt rr ro rn rj;with_reducible repeat' (first|(apply gA;apply c1)|apply e1|apply s2|apply e2|apply a3|apply a4|apply r5|apply s5|apply e6'|apply SA|apply ggr|apply YJ|(apply pG;focus with_unfolding_all exact rfl)|apply a7|apply eZ|exact oB|(apply fL (by decide))|exact dR _ _ _|exact br|apply bt|apply bq|apply bE|apply bO|exact aE|apply av (by decide)|exact ba|apply bg (by decide)|exact aI|apply aO|exact bA|(apply b7;apply bX)|(apply bV;focus rfl)|rfl))
 |some rg=>
  rw [hr] at r1 dv1;refine cO r1 λi q'5 hi _=>?_;obtain rfl:=q'5;have a7:=λfr=>dW (o:=.tuple [.str "ring",.ref i]) rfl z fr sL;have a8:=λfr=>dW (o:=.tuple [.ref i,.ref sL.length,.ref c7.length,.ref (c7.length+1)]) rfl z fr (sL++ [.tuple [.str "ring",.ref i]]);have kk:∀j,j<sL.length->(sL++ [jk [.str "ring",.ref i]]++ [jk [.ref i,.ref sL.length,.ref c7.length,.ref (c7.length+1)]])[j]? =sL[j]? :=λj hj=>(aJ (by rw [aq];exact ag hj (aF _ _))).trans (aJ hj);have hpp:Y7 (sL++ [jk [.str "ring",.ref i]]++ [jk [.ref i,.ref sL.length,.ref c7.length,.ref (c7.length+1)]]) ⟨0,0,0,[],ae,0,0⟩ (.ref sL.length) (af rg)->ed (sL++ [jk [.str "ring",.ref i]]++ [jk [.ref i,.ref sL.length,.ref c7.length,.ref (c7.length+1)]]) 7 (.ref sL.length)=af (C3 (af rg)):=Jw;have dp:ed (sL++ [jk [.str "ring",.ref i]]++ [jk [.ref i,.ref sL.length,.ref c7.length,.ref (c7.length+1)]]) 7 (.ref sL.length)=af (C3 (af rg)):=by
   refine .trans (wX (xs:=[.str "ring",.ref i]) (bI cK)) ?_;have hi':=(kk i (ag (aD (aX hi) Ly) (dU l6))).trans ((hold i (aD (aX hi) Ly)).trans ((k2.at (aX hi) hi)));simp only [dataL,Bw,kp hi',du,ct];rfl
  refine ⟨sL++ [.tuple [.str "ring",.ref i]]++ [.tuple [.ref i,.ref sL.length,.ref c7.length,.ref (c7.length+1)]],.ref (sL++ [jk [.str "ring",.ref i]]).length,gu (fr:=OT) ?_,(SD.trans (Hi.grow SD.len _)).trans (Hi.grow (by rw [aq];have:=SD.len;exact ai this (aF _ _)) _),_,.ref i,.ref sL.length,c7.length,c7.length+1,YI,rfl,cK,dv1 _ kk,dp,bI (bI g6),(G6.keep λi _ hi=>kk i hi).low,bI (bI v6)⟩;(delta wR rt rr ro rn rj;with_reducible repeat' (first|(apply gA;apply c1)|apply e1|apply s2|apply e2|apply a3|apply a4|apply r5|apply s5|apply e6'|apply SA|apply ggr|apply YJ|(apply pG;focus with_unfolding_all exact rfl)|(apply ite_no;focus exact bh)|apply a7|apply a8|apply eZ|exact oB|(apply fL (by decide))|exact dR _ _ _|exact br|apply bt|apply bq|apply bE|apply bO|exact aE|apply av (by decide)|exact ba|apply bg (by decide)|exact aI|apply aO|exact bA|(apply b7;apply bX)|(apply bV;focus rfl)|rfl))
theorem Gf{v0 v1:V}:∀rs:List V,rs.length<=9->cN P aj (n+1) (.top 87) (v0::v1::rs) os z=nB (xP (cy P aj n) z ⟨[("self",v0),("node",v1),("predecessors",.ref os.length)],os++ [.tuple rs]⟩):=by
 intro rs h;rcases rs with _|⟨a,rs⟩
 ·kernel_rfl
 rcases rs with _|⟨b,rs⟩
 ·kernel_rfl
 rcases rs with _|⟨c,rs⟩
 ·kernel_rfl
 rcases rs with _|⟨d,rs⟩
 ·kernel_rfl
 rcases rs with _|⟨e,rs⟩
 ·kernel_rfl
 rcases rs with _|⟨f,rs⟩
 ·kernel_rfl
 rcases rs with _|⟨g,rs⟩
 ·kernel_rfl
 rcases rs with _|⟨i,rs⟩
 ·kernel_rfl
 rcases rs with _|⟨j,rs⟩
 ·kernel_rfl
 rcases rs with _|⟨k,rs⟩
 ·kernel_rfl
 exact absurd h (by simp only [bb];exact tu.mpr (dH 10 _))
theorem Eo{v0:V}:∀rs:List V,rs.length<=4->cN P aj (n+1) (.top 120) (v0::rs) os z=nB (yV (cy P aj n) z ⟨[("self",v0),("nodes",.ref os.length)],os++ [.tuple rs]⟩):=by
 intro rs h;rcases rs with _|⟨a,rs⟩
 ·kernel_rfl
 rcases rs with _|⟨b,rs⟩
 ·kernel_rfl
 rcases rs with _|⟨c,rs⟩
 ·kernel_rfl
 rcases rs with _|⟨d,rs⟩
 ·kernel_rfl
 rcases rs with _|⟨e,rs⟩
 ·kernel_rfl
 exact absurd h (by simp only [bb];exact tu.mpr (dH 5 _))
theorem nH{l:List Nd}:(l.map nv).map (·.1)=l.map (·.nm):=by rw [dk];rfl
theorem Lg:∀(us:List Str) (p:List NV × List Str),(∀u∈us,u∈p.1.map (·.1))->Sm p.1 (us.foldl yZ p).1/\(∀x,x∉us->kL (us.foldl yZ p).1 x=kL p.1 x)/\(us.foldl yZ p).2.length<=p.2.length+us.length:=by
 intro us;induction us with
 |nil=>exact λp _=>⟨.refl,λ_ _=>rfl,ax _⟩
 |cons u us ih=>
  intro p h;refine cT (ih (yZ p u) λv hv=>by
   show v∈(kH u _ p.1).map (·.1);rw [ly];exact h v (i8 _ hv)) λa b c=>?_
  refine ⟨Sm.kH.trans a,λx hx=>?_,?_⟩
  ·refine (b x λq=>hx (i8 _ q)).trans ?_;show kL (kH u _ p.1) x=_;rw [vJ (h u (fg ..)),if_neg λ(q:x=u)=>hx (q▸fg ..)]
  ·refine ai c ?_;have:(yZ p u).2.length<=p.2.length+1:=by
    show (if _ then p.2++ [u] else p.2).length<=_;split
    ·rw [aq];exact ax _
    ·exact lF _
   rw [bb];exact ai (cg this _) (ar (aN _ _ _))
structure DS(G:List NV)(ys:List Str):Prop where
 np:∀y∈ys,y∈G.map (·.1)/\kL G y= -1
 cl:∀y∈ys,∀u∈x6 G y,u∈G.map (·.1)/\u∉ys
 ss:∀y∈ys,(x6 G y).length<=100
theorem UC:∀{ys:List Str}{S:Sr}{fr:eB}{os:List O}{l:List Str},gp os S->S.rd=af (r,l)->Zw z S->ys.Nodup->DS (S.df.map nv) ys->l.length+100*ys.length<=900->getF fr "n2i" =af (.ref S.hJ)->getF fr "self" =af (.ref S.i)->
  ∃ej os' jv l',fQ (λv=>lC (cx P aj cQ ao) v) (ys.map .str) z ⟨fr,os⟩=af (.next,⟨ej,os'⟩)/\gp os' {S with df:=jv,rd:=af (r,l'),fi:=S.fi+ys.length}/\my os S os' {S with df:=jv,rd:=af (r,l'),fi:=S.fi+ys.length}/\(jv.map nv,l')=ys.foldl x9 (S.df.map nv,l):=by
 intro ys;induction ys with
 |nil=>
  intro S fr os l h hr _ _ _ _ _ _;exact ⟨fr,os,S.df,l,rfl,by rw [←hr];simpa using h,by rw [←hr];simpa using my.refl,rfl⟩
 |cons y ys ih=>
  intro S fr os l h hr hz nd hd hs hn hS;rw [bb] at hs;obtain ⟨Vu,hnp⟩:=hd.np y (fg ..);rw [nH] at Vu;refine aR (aT.mp Vu) λx hx e=>?_;subst e;have Ip:=bu.mp nd;have enp:kL (S.df.map nv) x.nm=x.np:=Nw h.names hx;have ess:x6 (S.df.map nv) x.nm=x.ss:=Nx h.names hx;have sx:=hd.ss x.nm (fg ..);have Yg:=hd.cl x.nm (fg ..);rw [ess] at sx Yg;rw [nH] at Yg;refine kg (K3 (P:=P) (aj:=aj) (cQ:=cQ) h hr hz hx (enp.symm.trans hnp) (λu hu=>(Yg u hu).1) (ai (bF (ai sx (dH _ _)) _) hs) hn hS) λiy c4 Ew l1 e1 h1 f1 q1 n1 r'1=>?_;refine dZ r'1 λs1 i1=>?_;have est:x9 (S.df.map nv,l) x.nm=(Ew.map nv,l1):=by
   unfold x9;show (x6 (S.df.map nv) x.nm).foldl yZ _=_;rw [ess,q1]
  refine cT (Lg x.ss (kH x.nm (-2) (S.df.map nv),l) λu hu=>by
   show u∈(kH _ _ _).map (·.1);rw [ly,nH];exact (Yg u hu).1) λYA Vv ln1=>?_
  rw [←q1] at YA Vv ln1;have YK:Sm (S.df.map nv) (Ew.map nv):=Sm.kH.trans YA;have hd1:DS (Ew.map nv) ys:=by
   refine ⟨λy hy=>?_,λy hy u hu=>?_,λy hy=>?_⟩
   ·obtain ⟨a,b⟩:=hd.np y (i8 _ hy);refine ⟨by rw [YK.nm];exact a,?_⟩;have hyx:y≠x.nm:=λq=>Ip.1 (q▸hy);have hyu:y∉x.ss:=λq=>(Yg y q).2 (i8 _ hy);have h1:kL (Ew.map nv) y=kL (kH x.nm (-2) (S.df.map nv)) y:=Vv y hyu;rw [h1,vJ (by rw [nH];exact Vu),if_neg hyx];exact b
   ·rw [YK.ss] at hu;obtain ⟨a,b⟩:=hd.cl y (i8 _ hy) u hu;exact ⟨by rw [YK.nm];exact a,λq=>b (i8 _ q)⟩
   ·rw [YK.ss];exact hd.ss y (i8 _ hy)
  have hz1:Zw z ({S with df:=Ew,rd:=af (r,l1),fi:=S.fi+1}:Sr):=hz.Lo i1 (λq hq=>by show q∈Ci S.rd;rw [hr];exact hq) rfl;refine sP (ih (S:={S with df:=Ew,rd:=af (r,l1),fi:=S.fi+1}) (l:=l1) h1 rfl hz1 Ip.2 hd1 (ai (cg (ai ln1 (bF sx _)) _) (ai (ar (aN _ _ _)) hs)) n1 s1) λkM c7 Iq l2 e2 h2 f2 q2=>?_;have efi:S.fi+1+(ys.length:Int)=S.fi+((x.nm::ys).length:Nat):=by rw [bb];exact (Int.add_assoc _ _ _).trans (congrArg _ (yg _ _))
  refine ⟨kM,c7,Iq,l2,?_,by rw [←efi];exact h2,by rw [←efi];exact f1.trans f2,?_⟩
  ·rw [bx];exact (ig (turn:=λv=>lC (cx P aj cQ ao) v) e1).trans e2
  ·rw [q2,fK,est]
theorem Lh{ys:List Str}(h:gp os S)(hr:S.rd=af (r,l))(hz:Bh z os S)(nd:ys.Nodup)(hd:DS (S.df.map nv) ys)(hs:l.length+100*ys.length<=900)(h4:ys.length<=4):
  ∃os' jv l',cN P aj (n+1) (.top 120) (.ref S.i::ys.map .str) os z=af (.ret .none,os')/\gp os' {S with df:=jv,rd:=af (r,l'),fi:=S.fi+ys.length}/\my os S os' {S with df:=jv,rd:=af (r,l'),fi:=S.fi+ys.length}/\(jv.map nv,l')=ys.foldl x9 (S.df.map nv,l):=by
 rw [Eo _ (by rw [aH];exact h4)];have h1:=h.grow [.tuple (ys.map .str)];have f1:my os S (os++ [.tuple (ys.map .str)]) S:=my.grow _;have a:=λfr=>h1.attr (P:=P) (aj:=aj) (cQ:=cN P aj n) fr z ao;rw [hr] at a;have a1:=λfr=>(a fr).2.1;have a2:=λfr=>(a fr).1;have t1:(os++ [jk (ys.map .str)])[os.length]? =af (.tuple (ys.map .str)):=cK;have a3:=λfr=>src_tuple (P:=P) (aj:=aj) (cQ:=cN P aj n) (z:=z) (fr:=fr) t1;have tn:os.length∉idx S:=λq=>absurd (h.lt _ q) (aW _);have hz1:Bh (os.length::z) (os++ [.tuple (ys.map .str)]) S:=λj hj=>by
  rcases jJ hj with rfl|hj
  ·exact ⟨aX t1,tn⟩
  ·exact ⟨ag (hz j hj).1 f1.len,(hz j hj).2⟩
 refine sP (UC (P:=P) (aj:=aj) (cQ:=cN P aj n) (fr:=[(ah "self",.ref S.i),(ah "nodes",.ref os.length),(ah "n2i",.ref S.hJ)]) h1 hr hz1.zw nd hd hs (by rfl) (by rfl)) λej os' jv l' r1 r2 r3 r4=>?_;have r1':dh (af os.length) (fQ (λv=>lC (cy P aj n) v) (ys.map .str)) z ⟨[("self",.ref S.i),("nodes",.ref os.length),("n2i",.ref S.hJ)],os++ [.tuple (ys.map .str)]⟩=af (.next,⟨ej,os'⟩):=r1;refine ⟨os',jv,l',?_,r2,f1.trans r3,r4⟩;have:yV (cy P aj n) z ⟨[("self",.ref S.i),("nodes",.ref os.length)],os++ [.tuple (ys.map .str)]⟩=af (.next,⟨ej,os'⟩):=by
  (delta yV;with_reducible repeat' (first|apply a1|apply a2|apply a3|apply r1'|apply eZ|(apply fL (by decide))|(apply pG;focus with_unfolding_all exact rfl)|(apply ite_no;focus exact bh)|exact dR _ _ _|exact br|apply bt|apply bq|apply bE|apply bO|exact aE|apply av (by decide)|exact ba|apply bg (by decide)|exact aI|apply aO|exact bA|(apply b7;apply bX)|(apply bV;focus rfl)|rfl))
 rw [this];rfl
theorem WM(hs:∀y∈l,Sg y)(hz:∀j∈z,j<os.length)(hf:∀j,fz=af j->j<os.length)(hl:l.length<=100000):
  ∃os',fc (λfr=>fe []) (λuq i src=>s9 (cx P aj cQ ao) uq i src) ⟨l.map .str,fz⟩ z ⟨fr,os⟩=af (.ref os.length,⟨fr,os'⟩)/\os'[os.length]? =af (.list ((l.filter λa=>decide (a∈bW)).map .str))/\Hi os.length os os':=
 vM (turn:=λuq i v=>ow (cx P aj cQ ao) uq i v) (λa=>a∈bW) (λ_ _ _=>rfl) hz hf hl (λz' a ha q iy c4 c7 p1=>by
  have c1:=λ(c:Cx) (s:eP)=>Bx (c:=c) (z:=z') (s:=s) (hs a ha);rw [decide_eq_true q] at c1;exact ⟨putF iy "sign" (.str a),by (delta ow;with_reducible repeat' (first|apply c1|apply p1|exact dR _ _ _|exact br|apply bt|apply bq|apply bE|apply bO|exact aE|apply av (by decide)|exact ba|apply bg (by decide)|exact aI|apply aO|exact bA|(apply b7;apply bX)|(apply bV;focus rfl)|rfl))⟩) (λz' a ha q iy c4=>by
  have c1:=λ(c:Cx) (s:eP)=>Bx (c:=c) (z:=z') (s:=s) (hs a ha);rw [decide_eq_false q] at c1;exact ⟨putF iy "sign" (.str a),by (delta ow;with_reducible repeat' (first|apply c1|(apply ite_no;focus exact bh)|exact dR _ _ _|exact br|apply bt|apply bq|apply bE|apply bO|exact aE|apply av (by decide)|exact ba|apply bg (by decide)|exact aI|apply aO|exact bA|(apply b7;apply bX)|(apply bV;focus rfl)|rfl))⟩)
theorem Q6(h:Tx t)(hx:x∈bW):(rU bW t x).length<=9:=ai (cJ ..) (h.len x hx)
theorem WN:Me.isFn (.fn 87)=ao:=rfl
theorem UD:Me.isFn (.fn 120)=ao:=rfl
theorem WO(ht:Tx t){p:Nat × Str}(hp:p∈Jz)(h:gp os S)(h0:S.rd=ae)(hz:Bh z os S)(hs:Sz S (k+20))(oS:os[tx]? =af (.list (Bz t)))(hf1:getF fr "sorter" =af (.ref S.i))(hf2:getF fr "texts" =af (.ref tx)):
  ∃os' S',km (cy P aj (n+3)) (.int p.1) z ⟨fr,os⟩=af (.next,⟨putF fr "i" (.int p.1),os'⟩)/\gp os' S'/\my os S os' S'/\Lk S S' (Cj (S.df.map nv) p.2 (rU bW t p.2))/\Sz S' k:=by
 have hat:=Ek p hp;have hmem:p.2∈bW:=bN hat;have hz0:∀j∈z,j<os.length:=λj hj=>(hz j hj).1;have b1:=λfr=>h.DZ (P:=P) (aj:=aj) (cQ:=cN P aj (n+3)) (M1 P) noName.2.1 fr z ao;have i1:=λ(c:Cx) fr=>ya (c:=c) (z:=z) (fr:=fr) (.inl oS) (Ga (t:=t) hat) BA;have i2:=λ(c:Cx) (s:eP)=>QQ (c:=c) (z:=z) (s:=s) hat;have s1:=λfr=>qI (P:=P) (aj:=aj) (cQ:=cN P aj (n+3)) (z:=z) (fr:=fr) (os:=os) (ht.sg p.2 hmem);refine cO (WM (P:=P) (aj:=aj) (cQ:=cN P aj (n+3)) (z:=z) (os:=os) (fr:=putF fr "i" (.int p.1)) (fz:=none) (ht.sg p.2 hmem) hz0 (λ_ h=>by injection h) (ai (ht.len p.2 hmem) (ak rfl))) λc4 e1 g1 k1=>?_;have GF:c4[os.length]? =af (.list ((rU bW t p.2).map .str)):=g1;have st:=λfr=>La (P:=P) (aj:=aj) (cQ:=cN P aj (n+3)) (z:=z) (fr:=fr) GF;have b3:=λfr as=>tm (P:=P) (aj:=aj) (cQ:=cN P aj (n+3)) (z:=z) (fr:=fr) (os:=c4) (o:=.ref S.i) (as:=as) (jc (M1 P));obtain ⟨h1,f1⟩:=Hi.Nn h k1;have pl:=Q6 ht hmem;refine dD (NR (P:=P) (aj:=aj) (n:=n) (nm:=p.2) (ps:=rU bW t p.2) (k:=k) h1 h0 (hz.step f1) (hs.less (ai (ar (congrArg (· +1) (cD _ _))) (bF (qk (iZ (c9 2 pl)) rfl) _))) λn=>Gf _ (by rw [aH];exact pl)) λc7 S2 e2 h2 f2 l2 s2=>?_;refine ⟨c7,S2,?_,h2,f1.trans f2,l2,s2⟩;(delta km;with_reducible repeat' (first|apply hf1|apply hf2|apply b1|(apply bV;focus exact WN)|apply i2|apply i1|apply s1|apply e1|apply st|(apply gA;apply b3)|apply e2|exact dR _ _ _|exact br|apply bt|apply bq|apply bE|apply bO|exact aE|apply av (by decide)|exact ba|apply bg (by decide)|exact aI|apply aO|exact bA|(apply b7;apply bX)|(apply bV;focus rfl)|rfl))
theorem Q7(ht:Tx t):∀(ps:List (Nat × Str)) (k:Nat) (S:Sr) (fr:eB) (os:List O),(∀p∈ps,p∈Jz)->gp os S->S.rd=ae->Bh z os S->Sz S (k+20*ps.length)->tx∉idx S->os[tx]? =af (.list (Bz t))->getF fr "sorter" =af (.ref S.i)->getF fr "texts" =af (.ref tx)->
  ∃ej os' S',fQ (λv=>km (cy P aj (n+3)) v) (ps.map λp=>bD p.1) z ⟨fr,os⟩=af (.next,⟨ej,os'⟩)/\gp os' S'/\my os S os' S'/\Lk S S' (gj bW t (ps.map (·.2)) (S.df.map nv))/\Sz S' k/\getF ej "sorter" =af (.ref S.i)/\getF ej "texts" =af (.ref tx):=by
 intro ps;induction ps with
 |nil=>exact λk S fr os _ h _ _ hs _ _ h1 h2=>⟨fr,os,S,rfl,h,.refl,⟨rfl,rfl,rfl,rfl,rfl⟩,hs,h1,h2⟩
 |cons p ps ih=>
  intro k S fr os hp h h0 hz hs XU oS hf1 hf2;rw [bb] at hs;refine dD (WO (P:=P) (aj:=aj) (z:=z) (n:=n) (k:=k+20*ps.length) ht (hp p (fg ..)) h h0 hz (hs.less (ax _)) oS hf1 hf2) λc4 S1 e1 h1 f1 l1 s1=>?_;have OQ:=(f1.keep tx (aX oS) XU).trans oS;refine dx (ih k S1 (putF fr "i" (.int p.1)) c4 (λq hq=>hp q (i8 _ hq)) h1 (l1.rd.trans h0) (hz.step f1) s1 (λq=>(f1.idx tx q).elim XU λq=>absurd (aX oS) (cC.mpr q)) OQ (av (by decide) (by rw [l1.i];exact hf1)) (av (by decide) hf2)) λej c7 S2 e2 h2 f2 l2 s2 r'1=>?_;refine dZ r'1 λa1 a2=>?_;refine ⟨ej,c7,S2,?_,h2,f1.trans f2,⟨l2.i.trans l1.i,l2.rd.trans l1.rd,l2.po.trans l1.po,l2.fi.trans l1.fi,?_⟩,s2,by rw [←l1.i];exact a1,a2⟩
  ·rw [bx];exact (ig (turn:=λv=>km (cy P aj (n+3)) v) e1).trans e2
  ·rw [l2.nv,l1.nv];rfl
theorem Sb(h:Tx t)(k:Nat):∀x∈bW,(∀y∈ub bW t k x,Sg y)/\(ub bW t k x).length<=9^k:=by
 induction k with
 |zero=>exact λx hx=>⟨λy hy=>by rw [aL.mp hy];exact nG hx,ax _⟩
 |succ k ih=>
  intro x hx;rw [←Ec hx];refine ⟨H4 h (ih x hx).1,?_⟩;rw [Nat.pow_succ];exact ai (Ei h _) (ai (c9 9 (ih x hx).2) (ar (Nat.mul_comm _ _)))
def rv(t:Str->List Str)(a:Str):Str:=if a∈bW then cX (ub bW t 4 a) else a
theorem UE(l:List Str):cX (l.map (rv t))=cX (l.flatMap λc=>if c∈bW then ub bW t 4 c else [c]):=by
 induction l with
 |nil=>rfl
 |cons a l ih=>
  show rv t a++cX (l.map (rv t))=_;rw [bz,Eg,ih];congr 1;unfold rv;by_cases h:a∈bW
  ·rw [if_pos h,if_pos h]
  ·rw [if_neg h,if_neg h,Ai]
theorem Oh(h:u5 bW t 4 x=ao):cX ((t x).map (rv t))=cX (ub bW t 4 x):=by
 rw [UE];show cX (ub bW t 5 x)=_;rw [Jv h 5 (ak rfl)]
theorem JC(h:x∈l):lookE (EV t l) x=af (.str (cX (ub bW t 4 x))):=by
 induction l with
 |nil=>exact absurd h aU
 |cons a l ih=>
  show (if a=x then _ else lookE (EV t l) x)=_;by_cases q:a=x
  ·rw [if_pos q,q]
  ·rw [if_neg q];exact ih ((jJ h).resolve_left λe=>q e.symm)
theorem WQ(h:Tx t){vd:Nat}(hx:x∈bW)(hd:os[vd]? =af (.dict es))(he:∀p∈rU bW t x,lookE es p=af (.str (cX (ub bW t 4 p))))(hz:∀j∈z,j<os.length)(hf:getF fr "values" =af (.ref vd)):
  ∃os',fc (λfr=>fe [(ah "values",getF fr "values")]) (λuq i src=>td (cx P aj cQ ao) uq i src) ⟨(t x).map .str,ae⟩ z ⟨fr,os⟩=af (.ref os.length,⟨fr,os'⟩)/\os'[os.length]? =af (.list (((t x).map (rv t)).map .str))/\Hi os.length os os':=by
 have h9:=h.len x hx;refine cO (iV (fr:=fr) (os:=os) (z:=z) (ups:=λfr=>fe [(ah "values",getF fr "values")]) (body:=λuq i src=>td (cx P aj cQ ao) uq i src) (turn:=λuq i v=>oy (cx P aj cQ ao) uq i v) (fz:=none) (iv:=bp) (f:=λa=>[bp (rv t a)]) (l:=t x) (λ_ _ _=>rfl) hz (λ_ h=>by injection h) (by rw [pM];exact ai h9 (ak rfl))
  (λz' hz' a ha iy c4 xs h1 h2 hN=>by
   have hd1:=h1.at (aX hd) hd;have hacc:os.length∉z':=λq=>aW _ (hz' _ q);have c1:=λ(c:Cx) (s:eP)=>Bx (c:=c) (z:=z') (s:=s) (h.sg x hx a ha);have hu:getF (fe [(ah "values",getF fr "values")]) "values" =af (.ref vd):=by rw [hf];exact ba
   have l2:=λs=>iL (z:=z') (s:=s) hu;have p1:=λ(c:Cx) fr=>gV (c:=c) h2 hacc hN (.str (rv t a)) fr;refine ⟨putF iy "sign" (.str a),c4.set os.length (.list (xs++ [.str (rv t a)])),?_,dA h2,h1.trans (Hi.set (ax _) _)⟩;by_cases q:a∈bW
   ·rw [decide_eq_true q] at c1;have i1:=λ(c:Cx) fr=>yY (c:=c) (z:=z') (fr:=fr) hd1 (he a (bL.mpr ⟨ha,decide_eq_true q⟩));have e2:rv t a=cX (ub bW t 4 a):=if_pos q;rw [e2] at p1 ⊢;(delta oy;with_reducible repeat' (first|apply c1|apply l2|apply i1|apply p1|exact dR _ _ _|exact br|apply bt|apply bq|apply bE|apply bO|exact aE|apply av (by decide)|exact ba|apply bg (by decide)|exact aI|apply aO|exact bA|(apply b7;apply bX)|(apply bV;focus rfl)|rfl))
   ·rw [decide_eq_false q] at c1;have e2:rv t a=a:=if_neg q;rw [e2] at p1 ⊢;(delta oy;with_reducible repeat' (first|apply c1|apply p1|(apply ite_no;focus exact bh)|exact dR _ _ _|exact br|apply bt|apply bq|apply bE|apply bO|exact aE|apply av (by decide)|exact ba|apply bg (by decide)|exact aI|apply aO|exact bA|(apply b7;apply bX)|(apply bV;focus rfl)|rfl)))) λos' e g1 g2=>?_
 exact ⟨os',e,by rw [g1,pN,dk];rfl,g2⟩
def Y8(k:Str):Prop:=k≠ah "name" /\k≠ah "text"
theorem Oi(h:Tx t){vd:Nat}(X9:vd∉z)(htv:tx≠vd):∀(m l:List Str) (fr:eB) (os:List O),(∀x∈m,x∈bW/\u5 bW t 4 x=ao/\∀p∈rU bW t x,p∈l)->(l++m).Nodup->(l++m).length<=1000->(∀j∈z,j<os.length)->os[tx]? =af (.list (Bz t))->os[vd]? =af (.dict (EV t l))->getF fr "texts" =af (.ref tx)->getF fr "values" =af (.ref vd)->
  ∃ej os',fQ (λv=>kn (cx P aj cQ ao) v) (m.map .str) z ⟨fr,os⟩=af (.next,⟨ej,os'⟩)/\os.length<=os'.length/\(∀j,j<os.length->j≠vd->os'[j]? =os[j]?)/\os'[vd]? =af (.dict (EV t (l++m)))/\(∀k,Y8 k->getF ej k=getF fr k):=by
 intro m;induction m with
 |nil=>exact λl fr os _ _ _ _ _ h1 _ _=>⟨fr,os,rfl,ax _,λ_ _ _=>rfl,by rw [bB];exact h1,λ_ _=>rfl⟩
 |cons x m ih=>
  intro l fr os hm nd hl hz oS hd hf1 hf2;obtain ⟨hx,hok,hpr⟩:=hm x (fg ..);obtain ⟨kx,hkx⟩:=NY hx;have Yc:x∉l:=λq=>(bk.mp nd).2.2 x q x (fg ..) rfl;have m1:=λ(c:Cx) fr=>ru (c:=c) (z:=z) (fr:=fr) (os:=os) (x:=ah "abcd") y8;have s1:=λ(c:Cx) (s:eP)=>By (c:=c) (z:=z) (s:=s) hkx;have i1:=λ(c:Cx) fr=>ya (c:=c) (z:=z) (fr:=fr) (.inl oS) (Ga (t:=t) hkx) BA;have s2:=λfr=>qI (P:=P) (aj:=aj) (cQ:=cQ) (z:=z) (fr:=fr) (os:=os) (h.sg x hx);have m2:=λ(c:Cx) fr=>ru (c:=c) (z:=z) (fr:=fr) (os:=os) (x:=ah "") vH;refine cO (WQ (P:=P) (aj:=aj) (cQ:=cQ) (z:=z) (os:=os) (fr:=putF (putF fr "name" (.str x)) "text" (.str (cX (t x)))) h hx hd (λp hp=>JC (hpr p hp)) hz (av (by decide) (av (by decide) hf2))) λc4 e1 g1 k1=>?_;have j1:=λ(c:Cx) fr=>y9 (c:=c) (z:=z) (fr:=fr) g1 (by
   rw [Oh hok,rW (Sb h 4 x hx).1];have:=(Sb h 4 x hx).2;exact qk this rfl)
  rw [Oh hok] at j1;have YG:=aX hd;have hd1:=k1.at YG hd;have ll:l.length<=999:=by rw [aq,bb] at hl;exact eY (RE hl)
  have u1:=λ(c:Cx) fr=>xX (c:=c) (z:=z) (fr:=fr) (k:=x) (v:=.str (cX (ub bW t 4 x))) hd1 X9 (by rw [Em Yc,En,aq];simp;exact ai ll (ak rfl));rw [Em Yc] at u1;have st:kn (cx P aj cQ ao) (.str x) z ⟨fr,os⟩=af (.next,⟨putF (putF fr "name" (.str x)) "text" (.str (cX (t x))),c4.set vd (.dict (EV t (l++ [x])))⟩):=by
   (delta kn;with_reducible repeat' (first|apply hf1|apply hf2|apply m1|apply s1|apply i1|apply s2|apply m2|apply e1|apply j1|apply u1|exact dR _ _ _|exact br|apply bt|apply bq|apply bE|apply bO|exact aE|apply av (by decide)|exact ba|apply bg (by decide)|exact aI|apply aO|exact bA|(apply b7;apply bX)|(apply bV;focus rfl)|rfl))
  refine dD (ih (l++ [x]) (putF (putF fr "name" (.str x)) "text" (.str (cX (t x)))) (c4.set vd (.dict (EV t (l++ [x])))) (λy hy=>by
   obtain ⟨q1,q2,q3⟩:=hm y (i8 _ hy);exact ⟨q1,q2,λp hp=>cf _ (q3 p hp)⟩) (by rw [aQ];exact nd) (by rw [aQ];exact hl) (λj hj=>by rw [dI];exact ag (hz j hj) k1.len) (bC (k1.at (aX oS) oS) (λq=>htv q.symm)) (dA hd1) (av (by decide) (av (by decide) hf1)) (av (by decide) (av (by decide) hf2))) λej os' e2 a1 a2 a3 a4=>?_
  rw [dI] at a1 a2;refine ⟨ej,os',?_,ai k1.len a1,λj h1 h2=>(a2 j (ag h1 k1.len) h2).trans ((bH λq=>h2 q.symm).trans (k1.keep j h1)),?_,λk hk=>(a4 k hk).trans ?_⟩
  ·rw [bx];exact (ig (turn:=λv=>kn (cx P aj cQ ao) v) st).trans e2
  ·rw [aQ] at a3;exact a3
  ·rw [b9,if_neg hk.2,b9,if_neg hk.1]
theorem Li(l:List Str):Ay (l.map .str)=af l:=by
 induction l with
 |nil=>rfl
 |cons a l ih=>
  show (af a).bind (λs=>(Ay (l.map .str)).map (s:: ·))=_;rw [ih];rfl
theorem Oj{s:eP}:Pj c "sorted" as z s=Dk c as z s:=by kernel_rfl
theorem Ol{g:Nat}{ss:List Str}(h:os[g]? =af (.tuple (ss.map .str)))(hl:ss.length<64)(hz:os.length∉z):dN (cx P aj cQ ao) (.bi "sorted") [.ref g] z ⟨fr,os⟩=af (.ret (.ref os.length),⟨fr,os++ [.list ((rM ss).map .str)]⟩):=by
 have e:(os++ [cM (ss.map .str)]).set os.length (.list ((rM ss).map .str))=os++ [.list ((rM ss).map .str)]:=by
  rw [ui _ _ (ax _),mf];rfl
 rw [←e];refine Nh (Oj.trans ?_);refine (aZ (eL h z fr)).trans ((aZ (ff (Li ss) z _)).trans ((Ba (a:=alloc (.list (ss.map bp))>>=λr=>e9 r.ny λi=>gU i (.list ((rM ss).map bp))>>=λ_=>aA r) (b:=fail) hl z _).trans ?_));refine (aZ (dW (o:=.list (ss.map bp)) (decide_eq_true (by rw [aH];exact bS (aD hl (ak rfl)))) z fr os)).trans ?_;exact aZ (lR (o:=.list ((rM ss).map bp)) cK (decide_eq_true (by rw [aH,(o4 ss).length_eq];exact bS (aD hl (ak rfl)))) hz fr)
theorem H9:bW.Pairwise leB:=by
 refine CH ?_;kernel_rfl
theorem JD(hg:((gj bW t bW []).map (·.1)).Nodup)(hk:k<4):rM (k9 bW t k).2.2=GL t k:=by
 have hr:=C1 ju hg k;refine rE (le:=leB) (λ_ _ _ _ h h'=>xE h h') (xF _) (H9.sublist iP) ?_;refine (o4 _).trans ((qi hr.nd Ge).mpr λx=>?_);rw [F0 ju hg hk];exact ⟨λ⟨a,b⟩=>bL.mpr ⟨a,decide_eq_true b⟩,λh=>zJ h⟩
noncomputable def Ia(X:Nat->Prop)(os:List O):List V->List (List Str)->Prop
 | [],[]=>True
 |v::vs,l::ls=>(∃i,v= .ref i/\X i/\os[i]? =af (.list (l.map .str)))/\Ia X os vs ls
 |_,_=>False
theorem Ia.keep{X Y:Nat->Prop}(k:∀i,X i->i<os.length->Y i/\os'[i]? =os[i]?):∀{ls:List (List Str)},Ia X os vs ls->Ia Y os' vs ls:=by
 induction vs with
 |nil=>intro ls h;cases ls with|nil=>trivial|cons _ _=>exact h.elim
 |cons v vs ih=>
  intro ls h;cases ls with
  |nil=>exact h.elim
  |cons l ls=>
   obtain ⟨⟨i,e,hb,a⟩,h2⟩:=h;obtain ⟨q1,q2⟩:=k i hb (aX a);exact ⟨⟨i,e,q1,q2.trans a⟩,ih h2⟩
theorem Ia.snoc{X:Nat->Prop}(hb:X i)(hi:os[i]? =af (.list (l.map .str))):∀{ls:List (List Str)},Ia X os vs ls->Ia X os (vs++ [.ref i]) (ls++ [l]):=by
 induction vs with
 |nil=>intro ls h;cases ls with|nil=>exact ⟨⟨i,rfl,hb,hi⟩,trivial⟩|cons _ _=>exact h.elim
 |cons v vs ih=>
  intro ls h;cases ls with
  |nil=>exact h.elim
  |cons l ls=>exact ⟨h.1,ih h.2⟩
theorem Ia.len{X:Nat->Prop}:∀{ls:List (List Str)},Ia X os vs ls->vs.length=ls.length:=by
 induction vs with
 |nil=>intro ls h;cases ls with|nil=>rfl|cons _ _=>exact h.elim
 |cons v vs ih=>
  intro ls h;cases ls with
  |nil=>exact h.elim
  |cons l ls=>exact congrArg (· +1) (ih h.2)
theorem Ia.low{X:Nat->Prop}:∀{ls:List (List Str)},Ia X os vs ls->Aj 0 os vs ls:=by
 induction vs with
 |nil=>intro ls h;cases ls with|nil=>trivial|cons _ _=>exact h.elim
 |cons v vs ih=>
  intro ls h;cases ls with
  |nil=>exact h.elim
  |cons l ls=>
   obtain ⟨⟨i,e,hb,a⟩,h2⟩:=h;exact ⟨⟨i,e,fm _,a⟩,ih h2⟩
theorem Om(h:Tx t)(x:Str):(gL bW t x).length<=36:=by
 have:∀l:List Str,(∀i∈l,i∈bW)->(l.flatMap (gT t x)).length<=9*l.length:=by
  intro l;induction l with
  |nil=>exact λ_=>ax _
  |cons a l ih=>
   intro hl;have h1:(gT t x a).length<=9:=by
    unfold gT;rw [aH];exact ai (cJ ..) (h.len a (hl a (fg ..)))
   have h2:=ih λi hi=>hl i (i8 _ hi);rw [bz,aq,bb];exact VC h1 h2
 exact this bW λ_ h=>h
theorem UG:∀(ys:List Str) (G:List NV),(∀y∈ys,y∈G.map (·.1))->∀y∈ys,kL (zY G ys) y= -1:=by
 intro ys;induction ys with
 |nil=>exact λ_ _ y hy=>absurd hy aU
 |cons a ys ih=>
  intro G h y hy;have hG:∀z∈ys,z∈(kH a (-1) G).map (·.1):=λz hz=>by rw [ly];exact h z (i8 _ hz)
  by_cases q:y∈ys
  ·exact ih (kH a (-1) G) hG y q
  ·have e:y=a:=(jJ hy).resolve_right q;subst e;refine ((HZ ys (kH y (-1) G) hG).2 y q).trans ?_;rw [vJ (h y (fg ..)),if_pos rfl]
theorem UH(ht:Tx t){G:List NV}{D rl:List Str}(h:RI bW t G D rl):DS (zY G rl) rl:=by
 have hm:∀y∈rl,y∈G.map (·.1):=λy hy=>(h.nm y).mpr ((h.rd y).mp hy).1;obtain ⟨sm,_⟩:=HZ rl G hm;refine ⟨λy hy=>⟨by rw [sm.nm];exact hm y hy,UG rl G hm y hy⟩,λy hy u hu=>?_,λy hy=>?_⟩
 ·refine cT ((h.rd y).mp hy) λa b _=>?_;rw [sm.ss,h.ss y a] at hu;obtain ⟨c,d⟩:=R9 hu a;exact ⟨by rw [sm.nm];exact (h.nm u).mpr c,λq=>b (((h.rd u).mp q).2.2 y d)⟩
 ·rw [sm.ss,h.ss y ((h.rd y).mp hy).1];exact ai (Om ht y) (by decide)
theorem Sd(h:gp os S)(hr:S.rd=af (r,l))(hf1:getF fr "sorter" =af (.ref S.i)):lO (cy P aj (n+1)) z ⟨fr,os⟩=af (decide (S.fi<S.po)|| !l.isEmpty,⟨fr,os⟩):=by
 have b1:=λfr=>h.DZ (P:=P) (aj:=aj) (cQ:=cN P aj (n+1)) (CT P) (by rfl) fr z ao;have b3:=λfr as=>tm (P:=P) (aj:=aj) (cQ:=cN P aj (n+1)) (z:=z) (fr:=fr) (os:=os) (o:=.ref S.i) (as:=as) (jc (CT P));have a1:=HT (P:=P) (aj:=aj) (z:=z) (n:=n) h hr;(delta lO;with_reducible repeat' (first|apply hf1|apply b1|(apply gA;apply b3)|apply a1|exact dR _ _ _|exact br|apply bt|apply bq|apply bE|apply bO|exact aE|apply av (by decide)|exact ba|apply bg (by decide)|exact aI|apply aO|exact bA|(apply b7;apply bX)|(apply bV;focus rfl)|rfl))
def UI(k:Str):Prop:=k≠ah "name" /\k≠ah "text" /\k≠ah "group"
theorem WR(ht:Tx t)(Yh:((gj bW t bW []).map (·.1)).Nodup){gr vd:Nat}{gs:List V}{ls:List (List Str)}(hk:k<4)(h:gp os S)(hr:S.rd=af (r,(k9 bW t k).2.2))(hG:S.df.map nv=(k9 bW t k).1)(hz:Bh z os S)(Ve:gr∉z)(Vf:vd∉z)(Yn:gr∉idx S)(Yo:vd∉idx S)(TK:tx∉idx S)(RA:gr≠vd)(htv:tx≠vd)(htg:tx≠gr)
  (hg:os[gr]? =af (.list gs)) (WS:Ia (λi=>i∉idx S/\i≠gr/\i≠vd) os gs ls) (Vr:gs.length<=1000) (hv:os[vd]? =af (.dict (EV t (k9 bW t k).2.1))) (oS:os[tx]? =af (.list (Bz t)))
  (hf1:getF fr "sorter" =af (.ref S.i)) (hf2:getF fr "groups" =af (.ref gr)) (JQ:getF fr "values" =af (.ref vd)) (Z9:getF fr "texts" =af (.ref tx)):
  ∃ej os' S' gs',oz (cy P aj (n+1)) z ⟨fr,os⟩=af (.next,⟨ej,os'⟩)/\gp os' S'/\S'.i=S.i/\S'.rd=af (r,(k9 bW t (k+1)).2.2)/\S'.df.map nv=(k9 bW t (k+1)).1/\S'.po-S'.fi=S.po-S.fi/\os.length<=os'.length/\(∀j,j<os.length->j∉idx S->j≠gr->j≠vd->os'[j]? =os[j]?)/\(∀j∈idx S',j∈idx S∨os.length<=j)/\
   gr∉idx S'/\vd∉idx S'/\tx∉idx S'/\os'[gr]? =af (.list gs')/\Ia (λi=>i∉idx S'/\i≠gr/\i≠vd) os' gs' (ls++ [GL t k])/\os'[vd]? =af (.dict (EV t (k9 bW t (k+1)).2.1))/\os'[tx]? =af (.list (Bz t))/\(∀q,UI q->getF ej q=getF fr q):=by
 have ri:=C1 ju Yh k;have Vg:∀y∈(k9 bW t k).2.2,y∈bW:=λy hy=>((ri.rd y).mp hy).1;have Yi:(k9 bW t k).2.2.length<=4:=jt ri.nd Vg;have d4:(k9 bW t k).2.1.length<=4:=jt ri.dn λy hy=>(ri.cl y hy).1;have hnm:∀y∈(k9 bW t k).2.2,y∈S.df.map (·.nm):=λy hy=>by rw [←nH,hG];exact (ri.nm y).mpr (Vg y hy)
 have b1:=λfr=>h.DZ (P:=P) (aj:=aj) (cQ:=cN P aj (n+1)) (FI P) (by rfl) fr z ao;have b2:=λfr as=>tm (P:=P) (aj:=aj) (cQ:=cN P aj (n+1)) (z:=z) (fr:=fr) (os:=os) (o:=.ref S.i) (as:=as) (jc (FI P));refine iA (Nz (P:=P) (aj:=aj) (n:=n) h hr hz hnm (ai Yi (ak rfl))) λc4 Ew e1 t1 h1 f1 tn1 q1=>?_;obtain ⟨S1,U6⟩:∃S1:Sr,S1={S with df:=Ew,rd:=af (r,[]),po:=S.po+((k9 bW t k).2.2.length:Nat)}:=⟨_,rfl⟩;rw [←U6] at h1 f1 tn1;have i1:S1.i=S.i:=by rw [U6]
 have lg:=aX hg;have lv:=aX hv;have lt:=aX oS;have l1:os.length<c4.length:=aX t1;have C7:∀j,j<os.length->j∉idx S->c4[j]? =os[j]? :=f1.keep;have Ls:∀j,j<os.length->j∉idx S->j∉idx S1:=λj hj hn q=>(f1.idx j q).elim hn λq=>absurd hj (cC.mpr q);have gi1:=Ls gr lg Yn;have vi1:=Ls vd lv Yo;have s2:=λfr=>src_tuple (P:=P) (aj:=aj) (cQ:=cN P aj (n+1)) (z:=z) (fr:=fr) t1;refine dD (Oi (P:=P) (aj:=aj) (cQ:=cN P aj (n+1)) (z:=os.length::z) ht (tx:=tx) (vd:=vd) (λq=>by
  rcases jJ q with q|q
  ·exact aW _ (ag lv (ar q.symm))
  ·exact Vf q) htv (k9 bW t k).2.2 (k9 bW t k).2.1 (putF fr "group" (.ref os.length)) c4 (λx hx=>⟨Vg x hx,NQ.mp (by rw [((F0 ju Yh hk x).mp hx).2];exact hk),((ri.rd x).mp hx).2.2⟩) (bk.mpr ⟨ri.dn,ri.nd,λa ha b hb e=>((ri.rd b).mp hb).2.1 (e▸ha)⟩) (by rw [aq];exact qk (dS d4 Yi) rfl) (λj hj=>by
  rcases jJ hj with rfl|hj
  ·exact l1
  ·exact aD (hz j hj).1 l1) ((C7 tx lt TK).trans oS) ((C7 vd lv Yo).trans hv) (av (by decide) Z9) (av (by decide) JQ)) λkM c7 e2 l2 k2 d2 f2=>?_
 have GH:dh (af os.length) (fQ (λv=>kn (cy P aj (n+1)) v) ((k9 bW t k).2.2.map .str)) z ⟨putF fr "group" (.ref os.length),c4⟩=_:=e2;have h2:gp c7 S1:=h1.of_same λj hj=>k2 j (h1.lt j hj) λe=>vi1 (e▸hj);have Yj:c7[os.length]? =af (.tuple ((k9 bW t k).2.2.map .str)):=(k2 _ l1 (eM lv)).trans t1;have g2:c7[gr]? =af (.list gs):=(k2 gr (aD lg l1) RA).trans ((C7 gr lg Yn).trans hg);have gf:∀q,UI q->getF kM q=getF fr q:=λq hq=>(f2 q ⟨hq.1,hq.2.1⟩).trans (by rw [b9,if_neg hq.2.2]);have Vy:=(gf _ ⟨by decide,by decide,by decide⟩).trans hf1;have Ye:=(gf _ ⟨by decide,by decide,by decide⟩).trans hf2;have gg:getF kM "group" =af (.ref os.length):=(f2 _ ⟨by decide,by decide⟩).trans aE;have hz2:c7.length∉z:=λq=>aW _ (ag ((hz _ q).1) (bS (ag l1 l2)));have m3:=λ(c:Cx) fr=>k8 (c:=c) (z:=z) (fr:=fr) g2 mK;have c3:=λfr=>Ol (P:=P) (aj:=aj) (cQ:=cN P aj (n+1)) (z:=z) (fr:=fr) Yj (aV Yi (ak rfl)) hz2;rw [JD Yh hk] at c3;have g3:(c7++ [cM ((GL t k).map .str)])[gr]? =af (.list gs):=bI g2;have p3:=λ(c:Cx) fr=>pH (c:=c) (z:=z) (fr:=fr) (v:=.ref c7.length) g3 Ve (aV Vr (ak rfl));have h3:gp ((c7++ [cM ((GL t k).map .str)]).set gr (.list (gs++ [.ref c7.length]))) S1:=(h2.grow _).other gi1 _;obtain ⟨yf,Gw⟩:∃yf:List O,yf=(c7++ [cM ((GL t k).map .str)]).set gr (.list (gs++ [.ref c7.length])):=⟨_,rfl⟩;rw [←Gw] at h3 p3;have l4:yf.length=c7.length+1:=by rw [Gw,dI,aq];rfl
 have k4:∀j,j<c7.length->j≠gr->yf[j]? =c7[j]? :=λj hj hn=>by rw [Gw];exact (bH λe=>hn e.symm).trans (aJ hj)
 have Zq:Bh z yf S1:=λj hj=>⟨aD (ag (aD ((hz j hj).1) l1) l2) (ar l4.symm),Ls j (hz j hj).1 (hz j hj).2⟩;have b4:=λfr=>h3.DZ (P:=P) (aj:=aj) (cQ:=cN P aj (n+1)) (Jb P) (by rfl) fr z ao;rw [i1] at b4;have b5:=λfr as=>tm (P:=P) (aj:=aj) (cQ:=cN P aj (n+1)) (z:=z) (fr:=fr) (os:=yf) (o:=.ref S.i) (as:=as) (jc (Jb P));have st4:=λfr=>H2 (P:=P) (aj:=aj) (cQ:=cN P aj (n+1)) (z:=z) (fr:=fr) ((k4 _ (ag l1 l2) (eM lg)).trans Yj);have en1:S1.df.map nv=zY (k9 bW t k).1 (k9 bW t k).2.2:=by rw [U6];show Ew.map nv=_;rw [q1,hG]
 have ds:=UH ht ri;rw [←en1] at ds;refine b8 (Lh (P:=P) (aj:=aj) (n:=n) (l:=[]) h3 (by rw [U6]) Zq ri.nd ds (by simp;exact qk (c9 100 Yi) rfl) Yi) λED RB l5 e5 h5 f5 q5=>?_;rw [i1] at e5;rw [en1] at q5;have hq:(RB.map nv,l5)=nU (k9 bW t k).1 (k9 bW t k).2.2:=q5;have Gx:∀j,j<os.length->j∉idx S->j≠gr->j≠vd->ED[j]? =os[j]? :=λj hj hn a b=>(f5.keep j (aD (ag (aD hj l1) l2) (ar l4.symm)) (Ls j hj hn)).trans ((k4 j (ag (aD hj l1) l2) a).trans ((k2 j (aD hj l1) b).trans (C7 j hj hn)));have aad:∀j∈idx {S1 with df:=RB,rd:=af (r,l5),fi:=S1.fi+((k9 bW t k).2.2.length:Nat)},j∈idx S∨os.length<=j:=λj hj=>(f5.idx j hj).elim (f1.idx j) λq=>.inr (bS (ag (aD (ag l1 l2) (ar l4.symm)) q));have Gy:∀j,j<yf.length->j∉idx S1->j∉idx {S1 with df:=RB,rd:=af (r,l5),fi:=S1.fi+((k9 bW t k).2.2.length:Nat)}:=λj hj hn q=>(f5.idx j q).elim hn λq=>absurd hj (cC.mpr q);have g4:yf[gr]? =af (.list (gs++ [.ref c7.length])):=by rw [Gw];exact dA g3
 have n4:c7.length∉idx S1:=λq=>aW _ (ag (h1.lt _ q) l2);refine ⟨kM,ED,_,gs++ [.ref c7.length],?_,h5,i1,?_,?_,?_,ai (bS (aD (ag l1 l2) (ar l4.symm))) f5.len,Gx,aad,Gy gr (aD (ag (aD lg l1) l2) (ar l4.symm)) gi1,Gy vd (aD (ag (aD lv l1) l2) (ar l4.symm)) vi1,Gy tx (aD (ag (aD lt l1) l2) (ar l4.symm)) (Ls tx lt TK),(f5.keep gr (aD (ag (aD lg l1) l2) (ar l4.symm)) gi1).trans g4,?_,?_,(Gx tx lt TK htg htv).trans oS,gf⟩
 ·rw [Gw] at b4 st4 b5 e5;rw [Gw] at p3;(delta oz;with_reducible repeat' (first|apply hf1|apply b1|(apply gA;apply b2)|apply e1|apply s2|apply GH|apply Vy|apply Ye|apply gg|apply m3|apply c3|apply p3|apply b4|(apply bV;focus exact UD)|apply st4|(apply gA;apply b5)|apply e5|exact dR _ _ _|exact br|apply bt|apply bq|apply bE|apply bO|exact aE|apply av (by decide)|exact ba|apply bg (by decide)|exact aI|apply aO|exact bA|(apply b7;apply bX)|(apply bV;focus rfl)|rfl))
 ·show af (r,l5)=af (r,(nU _ _).2);rw [←hq]
 ·show RB.map nv=(nU _ _).1;rw [←hq]
 ·show S1.po-(S1.fi+_)=_;rw [U6];show S.po+_-(S.fi+_)=_;exact Int.add_sub_add_right _ _ _
 ·refine Ia.snoc ⟨Gy _ (ar l4.symm) n4,eM (ag (aD lg l1) l2),eM (ag (aD lv l1) l2)⟩ ?_ (WS.keep λi ⟨a,b,c⟩ hi=>⟨⟨Gy i (aD (ag (aD hi l1) l2) (ar l4.symm)) (Ls i hi a),b,c⟩,Gx i hi a b c⟩);refine (f5.keep _ (ar l4.symm) n4).trans ?_;rw [Gw];exact bC cK (bP (ag (aD lg l1) l2))
 ·refine (f5.keep vd (aD (ag (aD lv l1) l2) (ar l4.symm)) vi1).trans ((k4 vd (ag (aD lv l1) l2) (λe=>RA e.symm)).trans ?_);exact d2
structure LS(t:Str->List Str)(z:List Nat)(gr vd tx r k:Nat)(fr:eB)(os:List O)(S:Sr)(gs:List V)(ls:List (List Str)):Prop where
 h:gp os S
 hr:S.rd=af (r,(k9 bW t k).2.2)
 hG:S.df.map nv=(k9 bW t k).1
 pf:S.po-S.fi=0
 hz:Bh z os S
 Yn:gr∉idx S
 Yo:vd∉idx S
 TK:tx∉idx S
 hg:os[gr]? =af (.list gs)
 WS:Ia (λi=>i∉idx S/\i≠gr/\i≠vd) os gs ls
 Vr:gs.length<=k
 hv:os[vd]? =af (.dict (EV t (k9 bW t k).2.1))
 oS:os[tx]? =af (.list (Bz t))
 f1:getF fr "sorter" =af (.ref S.i)
 f2:getF fr "groups" =af (.ref gr)
 f3:getF fr "values" =af (.ref vd)
 f4:getF fr "texts" =af (.ref tx)
theorem Q8(ht:Tx t)(Yh:((gj bW t bW []).map (·.1)).Nodup){gr vd K:Nat}(hK:K<=4)(hne:∀k,k<K->(k9 bW t k).2.2≠ [])(SG:(k9 bW t K).2.2= [])(Ve:gr∉z)(Vf:vd∉z)(RA:gr≠vd)(htv:tx≠vd)(htg:tx≠gr):∀(m k N:Nat) (fr:eB) (os:List O) (S:Sr) (gs:List V) (ls:List (List Str)),k+m=K->m+1<=N->LS t z gr vd tx r k fr os S gs ls->
  ∃ej os' gs',g9 (lO (cy P aj (n+1))) (oz (cy P aj (n+1))) (aA bo) N z ⟨fr,os⟩=af (.next,⟨ej,os'⟩)/\os.length<=os'.length/\(∀j,j<os.length->j∉idx S->j≠gr->j≠vd->os'[j]? =os[j]?)/\os'[gr]? =af (.list gs')/\Aj 0 os' gs' (ls++(cb k m).map (GL t))/\os'[vd]? =af (.dict (EV t (k9 bW t K).2.1))/\(∀q,UI q->getF ej q=getF fr q):=by
 intro m;induction m with
 |zero=>
  intro k N fr os S gs ls hk hN s;obtain rfl:k=K:=hk;obtain ⟨N,rfl⟩:∃i,N=i+1:=⟨N-1,(fZ hN).symm⟩;have t1:=Sd (P:=P) (aj:=aj) (z:=z) (n:=n) s.h s.hr s.f1;have pf:=s.pf;rw [SG,show decide (S.fi<S.po)=bc from decide_eq_false (mP.mpr (oC (gF.mp pf)))] at t1;exact ⟨fr,os,gs,HP (test:=lO (cy P aj (n+1))) t1 (orelse:=aA bo) rfl rfl,ax _,λ_ _ _ _ _=>rfl,s.hg,by rw [List.range'_zero,yB,bB];exact s.WS.low,s.hv,λ_ _=>rfl⟩
 |succ m ih=>
  intro k N fr os S gs ls hk hN s;obtain ⟨N,rfl⟩:∃i,N=i+1:=⟨N-1,(fZ (sI hN)).symm⟩;have t1:=Sd (P:=P) (aj:=aj) (z:=z) (n:=n) s.h s.hr s.f1;have ht1:(decide (S.fi<S.po)|| !(k9 bW t k).2.2.isEmpty)=ao:=by
   have:=hne k (Vk hk);cases q:(k9 bW t k).2.2 with
   |nil=>exact absurd q this
   |cons a l=>simp
  rw [ht1] at t1;refine kg (WR (P:=P) (aj:=aj) (z:=z) (n:=n) ht Yh (k:=k) (ag (Vk hk) hK) s.h s.hr s.hG s.hz Ve Vf s.Yn s.Yo s.TK RA htv htg s.hg s.WS (ai (ai (ai (s.Vr) (cL hk)) hK) (ak rfl)) s.hv s.oS s.f1 s.f2 s.f3 s.f4) λiy c4 S1 Vy e1 h1 i1 r1 G1 r'1=>?_;refine iQ r'1 λp1 l1 k1 x1 a1 r'2=>?_;refine iQ r'2 λa2 a3 g1 X1 v1 r'3=>?_;refine dZ r'3 λy1 f1=>?_;have gl1:=X1.len;have gl0:=s.WS.len;have s1:LS t z gr vd tx r (k+1) iy c4 S1 Vy (ls++ [GL t k]):=⟨h1,r1,G1,p1.trans s.pf,λj hj=>⟨ag (s.hz j hj).1 l1,λq=>(x1 j q).elim (s.hz j hj).2 λq=>absurd (s.hz j hj).1 (cC.mpr q)⟩,a1,a2,a3,g1,X1,by rw [gl1,aq,←gl0];have:=s.Vr;simp;exact this,v1,y1,by rw [i1];exact (f1 _ ⟨by decide,by decide,by decide⟩).trans s.f1,(f1 _ ⟨by decide,by decide,by decide⟩).trans s.f2,(f1 _ ⟨by decide,by decide,by decide⟩).trans s.f3,(f1 _ ⟨by decide,by decide,by decide⟩).trans s.f4⟩;refine dx (ih (k+1) N iy c4 S1 Vy (ls++ [GL t k]) ((aN _ _ _).trans hk) (eY hN) s1) λkM c7 Ye e2 l2 k2 g2 X2 r'4=>?_;refine dZ r'4 λv2 f2=>?_;refine ⟨kM,c7,Ye,(xZ t1 e1).trans e2,ai l1 l2,λj b1 b2 b3 b4=>(k2 j (ag b1 l1) (λq=>(x1 j q).elim b2 λq=>absurd b1 (cC.mpr q)) b3 b4).trans (k1 j b1 b2 b3 b4),g2,?_,v2,λq hq=>(f2 q hq).trans (f1 q hq)⟩;rw [kr,bx];rw [aQ] at X2;exact X2
theorem j6:((gj bW t bW []).map (·.1)).Nodup:=by
 have key:∀(is:List Str) (l:List NV),(l.map (·.1)).Nodup->((gj bW t is l).map (·.1)).Nodup:=by
  intro is;induction is with
  |nil=>exact λl h=>h
  |cons i is ih=>
   intro l h;refine ih _ ?_;have ens:∀(l:List NV) (nm:Str),(l.map (·.1)).Nodup->((pI l nm).map (·.1)).Nodup:=λl nm h=>by
    unfold pI;by_cases q:nm∈l.map (·.1)
    ·rw [if_pos q];exact h
    ·rw [if_neg q,cw];exact bk.mpr ⟨h,bu.mpr ⟨aU,dy⟩,λa ha b hb e=>q (by have e2:b=nm:=aL.mp hb;rw [←e2,←e];exact ha)⟩
   have ps:∀(ps:List Str) (l:List NV),(l.map (·.1)).Nodup->((FY i l ps).map (·.1)).Nodup:=by
    intro ps;induction ps with
    |nil=>exact λl h=>h
    |cons a ps ih=>exact λl h=>ih _ (by rw [mM a (tX i) (λ_=>rfl)];exact ens l a h)
   exact ps _ _ (by rw [mM i (O2 _) (λ_=>rfl)];exact ens l i h)
 exact key bW [] dy
theorem za{p:Str->Bool}(l:List Str):l.find? p=(l.filter p).head?:=by
 induction l with
 |nil=>rfl
 |cons a l ih=>
  cases q:p a with
  |true=>rw [mj q,cu q];rfl
  |false=>rw [jm (by simp [q]),b6 (by simp [q])];exact ih
theorem Oo(ht:Tx t):findP (gL bW t) 200 ((gj bW t bW []).map (·.1)) []=af (nV t):=by
 have hw:wt (gL bW t) bW []<=144:=by
  unfold wt;have:∀l:List Str,(l.map λx=>(gL bW t x).length).sum<=36*l.length:=by
   intro l;induction l with
   |nil=>exact ax _
   |cons a l ih=>rw [bx,jF,bb];have:=Om ht a;exact VC this ih
  have h1:=this (bW.filter λx=>decide (x∉ []));have h2:=cJ (λx=>decide (x∉([]:List Str))) bW;have h3:bW.length=4:=rfl;exact ai h1 (c9 36 (ai h2 (ar h3)))
 have hL:=u7 (t:=t) (k:=4);rw [K4 ju (n:=4) (ax _) (N:=200) (qk (dS (bF hL 2) hw) rfl) λy hy=>lD.mp hy,HX];unfold nV;congr 2;rw [yB,ey,za,v8];unfold Ld;congr 2
 funext i
 by_cases q:i∈cG bW t 4
 ·rw [cu (by simpa using q),cu (by simpa using q)];congr 1;unfold rU;rw [qf];exact jT λs _=>by
   by_cases w:s∈cG bW t 4
   ·simp [w,nj s w]
   ·simp [w]
 ·rw [b6 (by simpa using q),b6 (by simpa using q)];unfold rU;rw [qf];exact jT λs _=>by
   by_cases w:s∈cG bW t 4
   ·simp [w,nj s w]
   ·simp [w]
theorem Oq{nx:Str->Str}:∀(m:Nat) (p:List Str) (y:Str),qG nx m p y= []->p.Nodup->(∀x∈p,x∈cG bW t 4)->y∈cG bW t 4->(∀x∈cG bW t 4,nx x∈cG bW t 4)->p.length+m<=(cG bW t 4).length:=by
 intro m;induction m with
 |zero=>exact λp y _ nd hp _ _=>jt nd hp
 |succ m ih=>
  intro p y e nd hp hy hn;have er:qG nx (m+1) p y=if y∈p then pL p y else qG nx m (p++ [y]) (nx y):=rfl
  rw [er] at e;by_cases q:y∈p
  ·rw [if_pos q] at e;exact absurd e (by unfold pL;simp)
  ·rw [if_neg q] at e;have:=ih (p++ [y]) (nx y) e (bk.mpr ⟨nd,bu.mpr ⟨aU,dy⟩,λa ha b hb e=>q (by rw [←aL.mp hb,←e];exact ha)⟩) (λx hx=>by
    rcases aG.mp hx with hx|hx
    ·exact hp x hx
    ·rw [aL.mp hx];exact hy) (hn y hy) hn
   rw [aq,fP] at this;exact ai (ar (aN _ _ 1)) this
theorem UJ:∀ring,nV t=af ring->ring≠ []:=λring h e=>by
 subst e;unfold nV at h;refine lmap h λy hy e=>?_;have:=Oq (t:=t) _ _ _ e dy (λ_ h=>absurd h aU) (El (mF hy)) λx hx=>by
  refine ck (Ju (na:=bW) (t:=t) (n:=4) (ax _) x hx) λ_ _ _ _ h3=>?_;exact h3
 simp at this;exact aW _ this
theorem Q9:j9 (Kw P) (.ref 229)=ao:=by kernel_rfl
theorem Cl.of(ht:Tx t)(h:gp os S)(e:S.df.map nv=gj bW t bW []):Cl S (gL bW t):=by
 have hm:∀x∈S.df,x.nm∈bW:=λx hx=>lD.mp (by rw [←e,nH];exact aT.mpr ⟨x,hx,rfl⟩);have hs:∀x∈S.df,gL bW t x.nm=x.ss:=λx hx=>by
  rw [←Nx h.names hx,e,(Bs (hm x hx) bW [] ju).1];rfl
 refine ⟨hs,λx hx y hy=>?_,?_⟩
 ·rw [←hs x hx] at hy;rw [←nH,e];exact lD.mpr (bL.mp (Ea.mp hy)).1
 ·have:=jt h.names λa ha=>by
   refine aR (aT.mp ha) λx hx q'1=>?_;obtain rfl:=q'1;exact hm x hx
  rw [aH] at this;exact ai this (by decide)
theorem Ot(ht:Tx t)(hz:∀j∈z,j<os.length)(oS:os[tx]? =af (.list (Bz t))):
  ∃os' d K,cN P aj (n+4) (.top 234) [.ref tx] os z=af (.ret d,os')/\Hi os.length os os'/\K<=4/\(∀k,k<K->(k9 bW t k).2.2≠ [])/\(k9 bW t K).2.2= []/\H7 os' d (nV t) ((cb 0 K).map (GL t)) (EV t (k9 bW t K).2.1):=by
 rw [Fs];have Lr:=aX oS;have c0:=λfr as=>gR (P:=P) (aj:=aj) (cQ:=cN P aj (n+3)) (z:=z) (fr:=fr) (os:=os) (as:=as) Qw;have e0:=QM (P:=P) (aj:=aj) (n:=n+2) (z:=z) (os:=os) hz;obtain ⟨Lz,RC⟩:∃Lz:List O,Lz=os++ [.ns (uY (os.length+2) .none 0 0),.inst 137 os.length,.dict []]:=⟨_,rfl⟩;have h0:gp Lz (F4 os.length):=by rw [RC];exact QN
 rw [←RC] at e0;have l0:Lz.length=os.length+3:=by rw [RC,aq];rfl
 have hk0:Hi os.length os Lz:=by rw [RC];exact Hi.grow (ax _) _
 have RD:∀j,j<os.length->j∉idx (F4 os.length):=λj hj q=>by
  simp only [idx,F4,Ci,aY,ey,ky,aU,or_false] at q;exact absurd hj (cC.mpr (q.elim (λq=>q▸lF _) λq=>q.elim (λq=>q▸ax _) λq=>q▸aF _ 2))
 have r1:=λfr=>wY (P:=P) (aj:=aj) (cQ:=cN P aj (n+3)) (z:=z) (fr:=fr) (os:=Lz);have s1:=λfr=>H3 (P:=P) (aj:=aj) (cQ:=cN P aj (n+3)) (z:=z) (fr:=fr) (cK:(Lz++ [dB 0 4 1])[Lz.length]? =af (.range 0 4 1));have hz0:Bh z (Lz++ [.range 0 4 1]) (F4 os.length):=λj hj=>⟨by rw [aq];have:=hz j hj;exact ag (ag this (cL l0.symm)) (aF _ _),RD j (hz j hj)⟩;refine dx (Q7 (P:=P) (aj:=aj) (z:=z) (n:=n) ht (tx:=tx) Jz 0 (F4 os.length) [(ah "texts",.ref tx),(ah "sorter",.ref (os.length+1))] (Lz++ [.range 0 4 1]) (λ_ h=>h) (h0.grow _) rfl hz0 ⟨by show 0+_<=900;decide,λx hx=>absurd hx aU⟩ (RD tx Lr) (bI (hk0.at Lr oS)) (bg (by decide) ba) ba) λiy c4 S1 e1 h1 f1 q1 s1' r'2=>?_;refine dZ r'2 λa1 a2=>?_;have Vw:dh ae (fQ (λv=>km (cy P aj (n+3)) v) ((cb 0 4).map λ(i:Nat)=>bD i)) z ⟨[("texts",.ref tx),("sorter",.ref (os.length+1))],Lz++ [.range 0 4 1]⟩=_:=e1;have en:S1.df.map nv=gj bW t bW []:=q1.nv;replace a1:getF iy "sorter" =af (.ref (os.length+1)):=a1;have i1:S1.i=os.length+1:=q1.i;have rd1:S1.rd=ae:=q1.rd;have pf1:S1.po-S1.fi=0:=by rw [q1.po,q1.fi];rfl
 have L0:(Lz++ [dB 0 4 1]).length=os.length+4:=by rw [aq,l0];rfl
 have l1:=f1.len;have C7:∀j,j<os.length->c4[j]? =os[j]? :=λj hj=>(f1.keep j (ag hj (cL L0.symm)) (RD j hj)).trans ((aJ (ag hj (cL l0.symm))).trans (hk0.keep j hj));have Gz:∀j,j<os.length->j∉idx S1:=λj hj q=>(f1.idx j q).elim (RD j hj) λq=>aW _ (ag hj (ai (cL L0.symm) q));have cl:=Cl.of ht h1 en;have hr:findP (gL bW t) 200 (S1.df.map (·.nm)) []=af (nV t):=by rw [←nH,en];exact Oo ht
 have b2:=λfr=>h1.DZ (P:=P) (aj:=aj) (cQ:=cN P aj (n+3)) (xU P) (by rfl) fr z ao;rw [i1] at b2;have b2':=λfr as=>tm (P:=P) (aj:=aj) (cQ:=cN P aj (n+3)) (z:=z) (fr:=fr) (os:=c4) (o:=.ref (os.length+1)) (as:=as) (jc (xU P));refine ck (FT (P:=P) (aj:=aj) (z:=z) (m:=n+2) h1 cl (λj hj=>ag (ag (hz j hj) (cL L0.symm)) l1) (ax 200) hr) λc7 v1 e2 k2 r2=>?_;rw [i1] at e2;have l2:=k2.len;obtain ⟨h2,f2⟩:=Hi.Nn h1 k2;have hz2:Bh z c7 S1:=λj hj=>⟨ag (ag (ag (hz j hj) (cL L0.symm)) l1) l2,Gz j (hz j hj)⟩;refine b8 (Ed (P:=P) (aj:=aj) (z:=z) (m:=n) h2 rd1 cl hz2 (ax 200) hr UJ) λiI v2 rd e3 p3 h3 f3=>?_;rw [i1] at e3;have c3:=λfr as=>gR (P:=P) (aj:=aj) (cQ:=cN P aj (n+3)) (z:=z) (fr:=fr) (os:=c7) (as:=as) Q9;have l3:=f3.len;obtain ⟨S2,Yk⟩:∃S2:Sr,S2={S1 with rd:=af (rd,gh (S1.df.map nv))}:=⟨_,rfl⟩;rw [←Yk] at h3 f3 p3;have JR:∀j,j<c7.length->j∉idx S1->j∉idx S2:=λj hj hn q=>(f3.idx j q).elim hn λq=>aW _ (ag hj q);have a4:=λfr=>dW (o:=.list []) rfl z fr iI;have a5:=λfr=>dW (o:=.dict []) rfl z fr (iI++ [.list []]);have L4:(iI++ [cM []]).length=iI.length+1:=by rw [aq];rfl
 rw [L4] at a5;have L5:(iI++ [cM []]++ [qh []]).length=iI.length+2:=by rw [aq,L4];rfl
 have big:∀j,iI.length<=j->j∉idx S2:=λj hj q=>aW _ (ag (h3.lt j q) hj);refine cO (QL (na:=bW) (t:=t) ju j6 (ax _)) λK hK hne SG=>?_;have YJ:(iI++ [cM []]++ [qh []])[iI.length+1]? =af (.dict (EV t (k9 bW t 0).2.1)):=by
  have:(iI++ [cM []]++ [qh []])[(iI++ [cM []]).length]? =af (.dict []):=cK;rw [L4] at this;exact this
 have SH:∀j,j<os.length->iI[j]? =os[j]? :=λj hj=>(f3.keep j (ag (ag (ag hj (cL L0.symm)) l1) l2) (Gz j hj)).trans ((k2.keep j (ag (ag hj (cL L0.symm)) l1)).trans (C7 j hj));have gfr:∀q,q≠ah "ring" ->q≠ah "prepared" ->q≠ah "groups" ->q≠ah "values" ->getF (putF (putF (putF (putF iy "ring" v1) "prepared" v2) "groups" (.ref iI.length)) "values" (.ref (iI.length+1))) q=getF iy q:=λq h1 h2 h3 h4=>by
  rw [b9,if_neg h4,b9,if_neg h3,b9,if_neg h2,b9,if_neg h1]
 have ls:LS t z iI.length (iI.length+1) tx rd 0 (putF (putF (putF (putF iy "ring" v1) "prepared" v2) "groups" (.ref iI.length)) "values" (.ref (iI.length+1))) (iI++ [.list []]++ [.dict []]) S2 [] []:=by
  refine ⟨(h3.grow _).grow _,by rw [Yk,en];rfl,by rw [Yk];exact en,by rw [Yk];exact pf1,λj hj=>⟨ag (ag (ag (ag (ag (hz j hj) (cL L0.symm)) l1) l2) l3) (cL L5.symm),JR j (ag (ag (ag (hz j hj) (cL L0.symm)) l1) l2) (Gz j (hz j hj))⟩,big _ (ax _),big _ (lF _),JR tx (ag (ag (ag Lr (cL L0.symm)) l1) l2) (Gz tx Lr),bI cK,trivial,ax _,YJ,bI (bI ((SH tx Lr).trans oS)),?_,av (by decide) aE,aE,(gfr _ (by decide) (by decide) (by decide) (by decide)).trans a2⟩;rw [Yk];show getF _ _=af (.ref S1.i);rw [i1];exact (gfr _ (by decide) (by decide) (by decide) (by decide)).trans a1
 refine dx (Q8 (P:=P) (aj:=aj) (z:=z) (n:=n+2) ht j6 hK hne SG (λq=>aW _ (ag (hz _ q) (ai (ai (ai (cL L0.symm) l1) l2) l3))) (λq=>aW _ (ag (jh (hz _ q)) (ai (ai (ai (cL L0.symm) l1) l2) l3))) (bP (bU _)) (bP (aD (ag (ag (ag (ag Lr (cL L0.symm)) l1) l2) l3) (bU _))) (bP (ag (ag (ag (ag Lr (cL L0.symm)) l1) l2) l3)) K 0 200 _ _ S2 [] [] (fD _) (aV hK (ak rfl)) ls) λOT sL YI e6 l6 k6 g6 X6 r'3=>?_;refine dZ r'3 λv6 f6=>?_;rw [L5] at l6 k6;have Gx:∀j,j<iI.length->j∉idx S2->sL[j]? =iI[j]? :=λj hj hn=>(k6 j (ag hj (aF _ _)) hn (bP hj) (bP (aD hj (bU _)))).trans ((aJ (aD hj (ar L4.symm))).trans (aJ hj));have y1:getF OT "ring" =af v1:=(f6 _ ⟨by decide,by decide,by decide⟩).trans (av (by decide) (av (by decide) (av (by decide) aE)));have y2:getF OT "prepared" =af v2:=(f6 _ ⟨by decide,by decide,by decide⟩).trans (av (by decide) (av (by decide) aE));have y3:getF OT "groups" =af (.ref iI.length):=(f6 _ ⟨by decide,by decide,by decide⟩).trans (av (by decide) aE);have y4:getF OT "values" =af (.ref (iI.length+1)):=(f6 _ ⟨by decide,by decide,by decide⟩).trans aE;have a7:=λfr=>dW (o:=.tuple [v1,v2,.ref iI.length,.ref (iI.length+1)]) rfl z fr sL;have SD:Hi os.length os sL:=⟨ai (ai (ai (ai (cL L0.symm) l1) l2) l3) (dU l6),λj hj=>(Gx j (ag (ag (ag (ag hj (cL L0.symm)) l1) l2) l3) (JR j (ag (ag (ag hj (cL L0.symm)) l1) l2) (Gz j hj))).trans (SH j hj)⟩;have k7:∀j,j<sL.length->(sL++ [jk [v1,v2,.ref iI.length,.ref (iI.length+1)]])[j]? =sL[j]? :=λj hj=>aJ hj;refine ⟨sL++ [.tuple [v1,v2,.ref iI.length,.ref (iI.length+1)]],.ref sL.length,K,gu (fr:=OT) ?_,SD.trans (Hi.grow SD.len _),hK,hne,SG,sL.length,v1,v2,iI.length,iI.length+1,YI,rfl,cK,?_,?_,bI g6,X6.keep λi _ hi=>k7 i hi,bI v6⟩
 ·(delta A7 wm wk wj wi wh wg we;with_reducible repeat' (first|(apply gA;apply c0)|apply e0|apply r1|apply s1|apply Vw|apply a1|apply b2|(apply gA;apply b2')|apply e2|(apply gA;apply c3)|apply e3|apply a4|apply a5|apply e6|apply y1|apply y2|apply y3|apply y4|apply a7|apply eZ|exact oB|(apply fL (by decide))|exact dR _ _ _|exact br|apply bt|apply bq|apply bE|apply bO|exact aE|apply av (by decide)|exact ba|apply bg (by decide)|exact aI|apply aO|exact bA|(apply b7;apply bX)|(apply bV;focus rfl)|rfl))
 ·induction hq:nV t using aw with
  |none=>rw [hq] at r2;obtain rfl:v1= .none:=r2;rfl
  |some rg=>
   rw [hq] at r2;refine cO r2 λi q'4 hi hb=>?_;obtain rfl:=q'4;have hlt:=aX hi;have ni:i∉idx S1:=λq=>aW _ (ag (h1.lt i q) hb);exact kp ((k7 i (ag (ag hlt l3) (dU l6))).trans ((Gx i (ag hlt l3) (JR i hlt ni)).trans ((f3.keep i hlt ni).trans hi)))
 ·refine Jw (S':=S2) ?_;induction hq:nV t using aw with
  |none=>rw [hq] at p3;exact p3
  |some rg=>
   rw [hq] at p3;refine dD p3 λu i e b1 b2 b3 b4=>?_;exact ⟨u,i,e,(k7 u (ag (aX b1) (dU l6))).trans ((Gx u (aX b1) b4).trans b1),(k7 i (ag (aX b2) (dU l6))).trans ((Gx i (aX b2) b3).trans b2),b3,b4⟩
theorem vN:∀{n:Nat}{v:V}{d:PyData},ed os n v=af d->ed os (n+1) v=af d:=by
 intro n;induction n with
 |zero=>
  intro v d h;induction v using V.casesOn with
  |ref i=>exact nn h
  |_=>exact h
 |succ n ih=>
  intro v d h;have hL:∀(xs:List V) (ds:List PyData),dataL (ed os n) xs=af ds->dataL (ed os (n+1)) xs=af ds:=by
   intro xs;induction xs with
   |nil=>intro ds h;exact h
   |cons x xs Z4=>
    intro ds h;refine eW h λa h1 h=>lmap h λb h2 h=>?_;show (ed os (n+1) x).bind (λd=>(dataL (ed os (n+1)) xs).map (d:: ·))=_;rw [ih h1,Z4 b h2];exact congrArg af h
  induction v using V.casesOn with
  |ref i=>
   refine eW h λo ho h=>(yb ho).trans ?_;induction o using O.casesOn with
   |list xs=>exact lmap h λds h1 h2=>by show (dataL (ed os (n+1)) xs).map _=_;rw [hL xs ds h1];exact congrArg af h2
   |tuple xs=>exact lmap h λds h1 h2=>by show (dataL (ed os (n+1)) xs).map _=_;rw [hL xs ds h1];exact congrArg af h2
   |_=>exact nn h
  |_=>exact h
theorem Gg:∀{ls:List (List Str)},Aj b os vs ls->dataL (ed os (n+1)) vs=af (ls.map λl=>.list (l.map .str)):=by
 induction vs with
 |nil=>intro ls h;cases ls with|nil=>rfl|cons _ _=>exact h.elim
 |cons v vs ih=>
  intro ls h;cases ls with
  |nil=>exact h.elim
  |cons l ls=>
   obtain ⟨⟨i,e,hb,a⟩,h2⟩:=h;subst e;show (ed os (n+1) (.ref i)).bind (λd=>(dataL (ed os (n+1)) vs).map (d:: ·))=_;rw [ih h2,kp a];rfl
theorem BC{x:PyData}{xs:List PyData}(h:x.canLay0=ao)(h':ix xs=ao):ix (x::xs)=ao:=by
 show (x.canLay0&&ix xs)=ao;rw [h,h'];rfl
theorem wZ{x:PyData}{xs:List PyData}(h:x.depth<=k)(h':dJ xs<=k):dJ (x::xs)<=k:=by
 show max x.depth (dJ xs)<=k;exact Nat.max_le.mpr ⟨h,h'⟩
theorem Ra{ls:List (List Str)}:(∀l∈ls,∀x∈l,eO x=ao)->ix (ls.map λl=>.list (l.map .str))=ao/\dJ (ls.map λl=>.list (l.map .str))<=1:=by
 induction ls with
 |nil=>exact λ_=>⟨rfl,by decide⟩
 |cons l ls ih=>
  intro h;obtain ⟨a,b⟩:=ih λm hm=>h m (i8 _ hm);have h1:=rV (ws:=l) (h l (fg ..));have h2:=mO l;refine ⟨BC h1 a,wZ ?_ b⟩;show dJ (l.map .str)+1<=1;exact cg (ar h2) _
theorem Ou{nx:Str->Str}:∀(m:Nat) (p:List Str) (y:Str),(∀x∈p,x∈cG bW t 4)->y∈cG bW t 4->(∀x∈cG bW t 4,nx x∈cG bW t 4)->∀x∈qG nx m p y,x∈cG bW t 4:=by
 intro m;induction m with
 |zero=>exact λp y _ _ _ x hx=>absurd hx aU
 |succ m ih=>
  intro p y hp hy hn x hx;have er:qG nx (m+1) p y=if y∈p then pL p y else qG nx m (p++ [y]) (nx y):=rfl
  rw [er] at hx;by_cases q:y∈p
  ·rw [if_pos q] at hx;rcases aG.mp hx with hx|hx
   ·exact hp x ((tP _).subset hx)
   ·rw [aL.mp hx];exact hy
  ·rw [if_neg q] at hx;exact ih (p++ [y]) (nx y) (λx hx=>by
    rcases aG.mp hx with hx|hx
    ·exact hp x hx
    ·rw [aL.mp hx];exact hy) (hn y hy) hn x hx
theorem JE:∀rg,nV t=af rg->∀x∈rg,eO x=ao:=λrg h x hx=>by
 unfold nV at h;refine lmap h λy hy e=>?_;subst e;have:=Ou (t:=t) _ _ _ (λ_ h=>absurd h aU) (El (mF hy)) (λx hx=>by
  refine ck (Ju (na:=bW) (t:=t) (n:=4) (ax _) x hx) λ_ _ _ _ h3=>?_;exact h3) x hx
 exact N7 (nG (nj x this))
theorem Gh:(F6 (nV t)).canLay0=ao/\(F6 (nV t)).depth<=20:=by
 cases q:nV t with
 |none=>exact ⟨rfl,by decide⟩
 |some rg=>
  refine ⟨rV (JE rg q),?_⟩;show dJ (rg.map .str)+1<=20;rw [mO];decide
theorem Gi:(C3 (nV t)).canLay0=ao/\(C3 (nV t)).depth<=20:=by
 cases q:nV t with
 |none=>exact ⟨rfl,by decide⟩
 |some rg=>
  refine ⟨BC (show eO "ring" =ao by kernel_rfl) (BC (rV (JE rg q)) rfl),?_⟩;show dJ _+1<=20;have:dJ [.str "ring",.list (rg.map .str)]<=1:=wZ (fm _) (wZ (by show dJ (rg.map .str)+1<=1;rw [mO];exact ax _) (fm _));exact aV this (ak rfl)
theorem Ov{d d':V}{G:List (List Str)}{es':List (Str × V)}(h:H7 os d (nV t) G es)(h':H7 os d' (nV t) G es')(hG:∀l∈G,∀x∈l,eO x=ao)(hl:es.length=es'.length)(hs:(es.all λp=>p.2.jU.isSome&&decide ((lookE es' p.1).bind V.jU=p.2.jU))=ao):EJ os d d'=ae/\z4 os d d'=af ao:=by
 refine gH h λi v1 v2 g r'2=>?_;refine iA r'2 λm gs q'1 h1 h2 h3 h4 r'3=>?_;refine dZ r'3 λh5 h6=>?_;obtain rfl:=q'1;refine gH h' λi' YL YM g' r'5=>?_;refine iA r'5 λm' gs' q'4 Ik h2' h3' GI r'6=>?_;refine dZ r'6 λZl ZJ=>?_;obtain rfl:=q'4;have dg:ed os 7 (.ref g)=af (.list (G.map λl=>.list (l.map .str))):=by rw [y6 h4,Gg h5];rfl
 have dg':ed os 7 (.ref g')=af (.list (G.map λl=>.list (l.map .str))):=by rw [y6 GI,Gg Zl];rfl
 have dm:ed os 7 (.ref m)=ae:=by refine .trans (yb h6) ?_;rfl
 have dt:ed os 8 (.ref i)=ae:=by
  refine .trans (wX h1) ?_;show (vu (ed os 7 v1) _).map _=_;rw [h2,ct];show (iE _ (vu (ed os 7 v2) _)).map _=_;rw [h3,ct];show (iE _ (iE _ (vu (ed os 7 (.ref g)) _))).map _=_;rw [dg,ct];show (iE _ (iE _ (iE _ (vu (ed os 7 (.ref m)) _)))).map _=_;rw [dm];rfl
 obtain ⟨g1,g2⟩:=Ra hG;have s1:qx os v1 YL=ao:=by unfold qx;rw [Ah (vN h2) (vN h2') Gh.1 Gh.2];rfl
 have s2:qx os v2 YM=ao:=by unfold qx;rw [Ah (vN h3) (vN h3') Gi.1 Gi.2];rfl
 have s3:qx os (.ref g) (.ref g')=ao:=by unfold qx;rw [Ah (vN dg) (vN dg') g1 (by show dJ _+1<=20;exact aV g2 (ak rfl))];rfl
 have s4:qx os (.ref m) (.ref m')=ao:=by
  unfold qx;have:Dg os (.ref m) (.ref m')=af ():=by
   show (os[m]?).bind (λoa=>(os[m']?).bind λob=>EK oa ob)=_;rw [h6,ZJ,ct,ct];show (if es.length=es'.length/\_=ao then af () else ae)=_;exact (if_pos ⟨hl,hs⟩)
  rw [this,ez];exact .inr rfl
 have sa:vD os [v1,v2,.ref g,.ref m] [YL,YM,.ref g',.ref m']=ao:=by
  show (qx os v1 YL&&(qx os v2 YM&&(qx os (.ref g) (.ref g')&&(qx os (.ref m) (.ref m')&&ao))))=ao;rw [s1,s2,s3,s4];rfl
 refine ⟨?_,?_⟩
 ·show (ed os 8 (.ref i)).bind _=ae;rw [dt];rfl
 ·show (os[i]?).bind (λoa=>(os[i']?).bind λob=>oa.uA.bind λxs=>ob.uA.bind λys=>if vD os xs ys=ao then af ao else ae)=_;rw [h1,Ik,ct,ct];show (if vD os [v1,v2,.ref g,.ref m] [YL,YM,.ref g',.ref m']=ao then af ao else ae)=_;exact (if_pos sa)
theorem H7.keep{d:V}{G:List (List Str)}(h:H7 os d rg G es)(hi:Hi os.length os os'):H7 os' d rg G es:=by
 refine gH h λi v1 v2 g r'7=>?_;refine iA r'7 λm gs e h1 h2 h3 h4 r'8=>?_;refine dZ r'8 λh5 h6=>?_;exact ⟨i,v1,v2,g,m,gs,e,hi.at (aX h1) h1,y7 hi.keep h2,y7 hi.keep h3,hi.at (aX h4) h4,h5.keep λi _ hl=>hi.keep i hl,hi.at (aX h6) h6⟩
theorem Ow{K:Nat}(hK:K<=4)(hne:∀k,k<K->(k9 bW t k).2.2≠ [])(SG:(k9 bW t K).2.2= []):(cb 0 K).map (GL t)=dG t (cb 0 4)/\(∀x,x∈(k9 bW t K).2.1↔x∈dK t (cb 0 4))/\(k9 bW t K).2.1.Nodup:=by
 have ri:=C1 ju (j6 (t:=t)) K;have stay:∀x∈bW,u5 bW t 4 x=ao->u5 bW t K x=ao:=λx hx h=>by
  refine QK (K:=K) (λx hx h=>?_) (4-K) x hx (by rw [show K+(4-K)=4 from fy hK];exact h);by_cases q:u5 bW t K x=ao
  ·exact q
  ·have:x∈(k9 bW t K).2.2:=(ri.rd x).mpr ⟨hx,λw=>q ((vL ju j6 K x).mp w).2,λp hp=>(vL ju j6 K p).mpr ⟨Eb hp,bK.mp h p hp⟩⟩;rw [SG] at this;exact absurd this aU
 have aae:∀k,K<=k->k<4->GL t k= []:=λk h1 h2=>by
  cases q:GL t k with
  |nil=>rfl
  |cons a l=>
   obtain ⟨a1,a2⟩:=zJ (q▸fg .. :a∈GL t k);obtain ⟨b1,b2⟩:=(H0 h2).mp a2;have:=stay a a1 (Bt (h2) b1);rw [Bt h1 this] at b2;injection b2
 have gne:∀k,k<K->GL t k≠ []:=λk hk e=>by
  rw [←JD j6 (by exact ag hk hK:k<4)] at e;have:=(o4 (k9 bW t k).2.2).length_eq;rw [e] at this;exact hne k hk (gy.mp this.symm)
 refine ⟨?_,λx=>?_,ri.dn⟩
 ·unfold dG;have e:=List.range'_append_1 (s:=0) (m:=K) (n:=4-K);rw [fD,show K+(4-K)=4 from fy hK] at e;rw [←e,cw,qd];have e1:((cb 0 K).map (GL t)).filter (λl=>decide (l≠ []))=(cb 0 K).map (GL t):=v7.mpr λl hl=>by
   refine aR (aT.mp hl) λk hk q'9=>?_;obtain rfl:=q'9;rw [qU] at hk;exact decide_eq_true (gne k (ag hk.2 (ar (fD _))))
  have e2:((cb K (4-K)).map (GL t)).filter (λl=>decide (l≠ []))= []:=jf.mpr λl hl=>by
   refine aR (aT.mp hl) λk hk q'10=>?_;obtain rfl:=q'10;rw [qU] at hk;rw [aae k (hk.1) ((yu _ 4).elim (λq=>ag hk.2 (ar (fy q))) λq=>absurd (ag hk.2 (by rw [ud q];exact ax _)) (cC.mpr hk.1))];exact iK rfl
  rw [e1,e2,bB]
 ·rw [vL ju j6,H8,qU,fD];exact ⟨λ⟨a,b⟩=>⟨a,fm _,NQ.mpr (Bt hK b)⟩,λ⟨a,_,b⟩=>⟨a,stay x a (NQ.mp b)⟩⟩
noncomputable def zK:List (Int × Str)->Nat->Option Str
 | [],_=>ae
 |(.ofNat k,s)::r,c=>cond (ij k c) (af s) (zK r c)
 |(.negSucc _,_)::r,c=>zK r c
theorem BD(c:Nat):∀l:List (Int × Str),lookE (l.map λp=>((p.1:Int),bp p.2)) (c:Int)=(zK l c).map .str
 | []=>rfl
 |(.ofNat k,s)::r=>by
  show (if sJ k=(c:Int) then af (bp s) else lookE (r.map λp=>((p.1:Int),bp p.2)) (c:Int))=iE bp (cond (ij k c) (af s) (zK r c));by_cases h:k=c
  ·subst h;rw [if_pos (show sJ k=((k:Nat):Int) from rfl),Nat.beq_refl];rfl
  ·have h1:ij k c=bc:=by
    induction q:ij k c using cF with
    |false=>rfl
    |true=>exact absurd (um q) h
   rw [if_neg (show¬sJ k=((c:Nat):Int) from λq=>h (kW q)),h1,BD c r];rfl
 |(.negSucc k,s)::r=>by
  show (if Int.negSucc k=(c:Int) then af (bp s) else lookE (r.map λp=>((p.1:Int),bp p.2)) (c:Int))=iE bp (zK r c);exact (BD c r)▸rfl
def yc(c:Nat):Str:=(zK vE c).getD (vP (iH c))
noncomputable def Vs:List Int->Nat->Bool
 | [],_=>bc
 | .ofNat k::r,c=>cond (ij k c) ao (Vs r c)
 | .negSucc _::r,c=>Vs r c
theorem Ib(c:Nat):∀l:List Int,Vs l c=decide ((c:Int)∈l)
 | []=>rfl
 | .ofNat k::r=>by
  show cond (ij k c) ao (Vs r c)=_;by_cases h:k=c
  ·subst h;rw [Nat.beq_refl];simp
  ·have h1:ij k c=bc:=by
    induction q:ij k c using cF with
    |false=>rfl
    |true=>exact absurd (um q) h
   rw [h1,Ib c r];have h2:¬(c:Int)=sJ k:=λq=>h (kW q).symm;simp only [cond_false,aY,h2,false_or]
 | .negSucc k::r=>by
  show Vs r c=_;refine (Ib c r).trans ?_;have h2:¬(c:Int)=Int.negSucc k:=λq=>by injection q
  simp only [aY,h2,false_or]
def BE(c:Nat):Bool:=Vs T1 c
def yd(c:Nat):Str:=if BE c then ⟨#[]⟩ else yc c
section
variable{l:bj}{ns:List Int}
theorem Ox(c:Nat)(fr:eB):dN (cx P aj cQ ao) (.bi "ord") [.str (iH c)] z ⟨fr,os⟩=af (.ret (.int c),⟨fr,os⟩):=Nh (by
 exact m_ord)
theorem WT(h:c.aj=cR l ns):c.aj.lookup 149=af (.B1 T1):=by refine h▸ ?_;rfl
theorem Se(h:c.aj=cR l ns):c.aj.lookup 160=af (.qw Vq):=by refine h▸ ?_;rfl
theorem Rb(c:Nat):cN P (cR l ns) (n+1) (.top 159) [.str (iH c)] os z=af (.ret (.bool (BE c)),os):=by
 rw [A6];have o1:=λfr=>Ox (P:=P) (cQ:=cN P (cR l ns) n) (z:=z) (os:=os) (aj:=cR l ns) c fr;have i1:∀fr,Pg (cy P (cR l ns) n) (.int (c:Int)) (.top 149) z ⟨fr,os⟩=af (decide ((c:Int)∈T1),⟨fr,os⟩):=λfr=>by
  exact aZ (Qk (WT rfl) z _)
 have e:BE c=decide ((c:Int)∈T1):=Ib c T1;(delta wd;with_reducible repeat' (first|apply o1|exact dR _ _ _|exact br|apply bt|apply bq|apply bE|exact ba|apply gu|with_unfolding_all rfl|(apply uX<;>first|rfl|(simp only [mpure,Cg,FE,dR,zI,getF,putF,dz,gE,if_true,if_false,reduceIte,du,eA,dw,iG,gZ,reduceCtorEq,cmpC,isV,cV,o1,i1,nB,e];done))))
theorem Rc(c:Nat):cN P (cR l ns) (n+1) (.top 205) [.str (iH c)] os z=af (.ret (.str (yc c)),os):=by
 rw [zW];have o1:=λfr=>Ox (P:=P) (cQ:=cN P (cR l ns) n) (z:=z) (os:=os) (aj:=cR l ns) c fr;have m1:∀fr,ew (cy P (cR l ns) n) (.top 160) "get" z ⟨fr,os⟩=af (.bi "dict.get",⟨fr,os⟩):=λfr=>by
  exact (aZ (Qk (Se rfl) z _)).trans (aZ (ff (o:=idOf (.qw Vq) "get") DY z _))
 have g1:∀fr,fh (cy P (cR l ns) n) "dict.get" (.top 160) [.int (c:Int)] z ⟨fr,os⟩=af ((lookE Vq (c:Int)).getD .none,⟨fr,os⟩):=λfr=>by
  exact Nc.trans (aZ (Qk (Se rfl) z _))
 have e:lookE Vq (c:Int)=(zK vE c).map .str:=BD c vE;rw [e] at g1;have m2:=λfr=>ru (c:=cy P (cR l ns) n) (z:=z) (fr:=fr) (os:=os) (x:=iH c) M9;have l2:∀fr,fh (cy P (cR l ns) n) "str.lower" (.str (iH c)) [] z ⟨fr,os⟩=af (.str (vP (iH c)),⟨fr,os⟩):=λfr=>by
  exact m_lower.trans (Ba (a:=aA (bp (vP (iH c)))) (b:=fail) (p:=(iH c).cps.size<=1000000) (by show (1:Nat)<=1000000;decide) z _)
 induction hq:zK vE c using aw with
 |some s=>
  rw [hq] at g1;have e2:yc c=s:=by unfold yc;refine hq▸ ?_;rfl
  (delta pq;with_reducible repeat' (first|apply o1|apply m1|apply g1|exact dR _ _ _|exact br|apply bt|apply bq|apply bE|apply bO|exact ba|apply bg (by decide)|exact eZ|apply fL (by decide)|exact aI|apply aO|exact bA|(apply b7;apply bX)|(apply oR;focus with_unfolding_all exact rfl)|(apply bV;focus decide)|apply gu|(apply uX<;>first|rfl|(simp only [mpure,Cg,FE,dR,zI,getF,putF,dz,gE,if_true,if_false,reduceIte,du,eA,dw,iG,gZ,reduceCtorEq,cmpC,isV,cV,o1,m1,bX,g1,zi,nB,e2];done))))
 |none=>
  rw [hq] at g1;have e2:yc c=vP (iH c):=by unfold yc;refine hq▸ ?_;rfl
  (delta pq;with_reducible repeat' (first|apply o1|apply m1|apply g1|apply m2|apply l2|exact dR _ _ _|exact br|apply bt|apply bq|apply bE|apply bO|exact ba|apply bg (by decide)|exact eZ|apply fL (by decide)|exact aI|apply aO|(apply b7;apply bX)|(apply oR;focus with_unfolding_all exact rfl)|(apply ite_no;focus decide)|apply gu|(apply uX<;>first|rfl|(simp only [mpure,Cg,FE,dR,zI,getF,putF,dz,gE,if_true,if_false,reduceIte,du,eA,dw,iG,gZ,reduceCtorEq,cmpC,isV,cV,o1,m1,bX,g1,zj,m2,l2,nB,e2];done))))
theorem Rd:j9 (Kw P) (.ref 159)=ao:=by kernel_rfl
theorem Rf:j9 (Kw P) (.ref 205)=ao:=by kernel_rfl
theorem Y9:¬(ao==bc)=ao:=by decide
theorem Za:(bc==bc)=ao:=rfl
theorem Gj(cs:List Nat):cX (cs.flatMap λc=>if BE c=ao then [] else [yc c])=cX (cs.map yd):=by
 induction cs with
 |nil=>rfl
 |cons c cs ih=>
  rw [bz,Eg,ih];show _=yd c++cX (cs.map yd);congr 1;unfold yd;by_cases h:BE c=ao
  ·rw [if_pos h,if_pos h];rfl
  ·rw [if_neg h,if_neg h,Ai]
theorem Oy(s:Str):cX (lets s)=s:=by
 obtain ⟨⟨l⟩⟩:=s;show cX (l.map iH)=_;induction l with
 |nil=>rfl
 |cons a l ih=>
  show iH a++cX (l.map iH)=_;rw [ih];show (⟨#[a]++⟨l⟩⟩:Str)=⟨⟨a::l⟩⟩;have e:(#[a]++(⟨l⟩:Array Nat))=⟨a::l⟩:=Array.ext' (by refine (oj).trans ?_;rfl);exact congrArg _ (e)
theorem UK{cs:List Nat}(hz:∀j∈z,j<os.length)(hl:cs.length<=100000):
  ∃os',fc (λfr=>fe []) (λuq i src=>m9 (cy P (cR l ns) (n+1)) uq i src) ⟨cs.map λc=>.str (iH c),ae⟩ z ⟨fr,os⟩=af (.ref os.length,⟨fr,os'⟩)/\os'[os.length]? =af (.list ((cs.flatMap λc=>if BE c=ao then [] else [yc c]).map .str))/\Hi os.length os os':=by
 have hN:(cs.flatMap λc=>if BE c=ao then [] else [bp (yc c)]).length<=1000000:=by
  have:∀l:List Nat,(l.flatMap λc=>if BE c=ao then [] else [bp (yc c)]).length<=l.length:=by
   intro l;induction l with
   |nil=>exact ax _
   |cons a l ih=>
    rw [bz,aq,bb];have:(if BE a=ao then [] else [bp (yc a)]).length<=1:=by split<;>simp
    exact Yl this ih
  have:=this cs;exact ai (ai this hl) (ak rfl)
 refine cO (iV (fr:=fr) (os:=os) (z:=z) (ups:=λfr=>fe []) (body:=λuq i src=>m9 (cy P (cR l ns) (n+1)) uq i src) (turn:=λuq i v=>mZ (cy P (cR l ns) (n+1)) uq i v) (fz:=none) (iv:=λc=>bp (iH c)) (f:=λc=>if BE c=ao then [] else [bp (yc c)]) (l:=cs) (λ_ _ _=>rfl) hz (λ_ h=>by injection h) hN
  (λz' hz' a ha iy c4 xs h1 h2 hN=>by
   have hacc:os.length∉z':=λq=>aW _ (hz' _ q);have b1:=Rb (P:=P) (l:=l) (ns:=ns) (z:=z') (n:=n) (os:=c4) a;have k1:=λfr as=>gR (P:=P) (aj:=cR l ns) (cQ:=cN P (cR l ns) (n+1)) (z:=z') (fr:=fr) (os:=c4) (as:=as) Rd;have b2:=Rc (P:=P) (l:=l) (ns:=ns) (z:=z') (n:=n) (os:=c4) a;have k2:=λfr as=>gR (P:=P) (aj:=cR l ns) (cQ:=cN P (cR l ns) (n+1)) (z:=z') (fr:=fr) (os:=c4) (as:=as) Rf;by_cases q:BE a=ao
   ·simp only [if_pos q,bB] at hN ⊢;rw [q] at b1;refine ⟨putF iy "sign" (.str (iH a)),c4,?_,h2,h1⟩;(delta mZ;with_reducible repeat' (first|(apply gA;apply k1)|apply b1|(apply pG;focus with_unfolding_all exact rfl)|(apply ite_no;focus exact Y9)|(apply ite_no;focus exact bh)|exact dR _ _ _|exact br|apply bt|apply bq|apply bE|apply bO|exact aE|apply av (by decide)|exact ba|apply bg (by decide)|exact aI|apply aO|exact bA|(apply b7;apply bX)|(apply bV;focus rfl)|rfl))
   ·simp only [if_neg q] at hN ⊢;rw [yA.mpr q] at b1;have p1:=λ(c:Cx) fr=>gV (c:=c) h2 hacc hN (.str (yc a)) fr;refine ⟨putF iy "sign" (.str (iH a)),c4.set os.length (.list (xs++ [.str (yc a)])),?_,dA h2,h1.trans (Hi.set (ax _) _)⟩;(delta mZ;with_reducible repeat' (first|(apply gA;apply k1)|apply b1|(apply pG;focus with_unfolding_all exact rfl)|(apply bV;focus exact Za)|(apply gA;apply k2)|apply b2|apply p1|exact dR _ _ _|exact br|apply bt|apply bq|apply bE|apply bO|exact aE|apply av (by decide)|exact ba|apply bg (by decide)|exact aI|apply aO|exact bA|(apply b7;apply bX)|(apply bV;focus rfl)|rfl)))) λos' e g1 g2=>?_
 refine ⟨os',e,g1.trans ?_,g2⟩;congr 2;refine List.map_flatMap▸ ?_;congr 1
 funext c
 split<;>rfl
theorem Lj{cs:List Nat}(hz:∀j∈z,j<os.length)(hc:∀c∈cs,c<1114112)(hl:cs.length<=1000)(hs:(cX (cs.map yd)).cps.size<=1000000):
  ∃os',cN P (cR l ns) (n+2) (.top 222) [.str (cX (cs.map iH))] os z=af (.ret (.str (cX (cs.map yd))),os')/\Hi os.length os os':=by
 rw [DK];have s1:=λfr=>qI (P:=P) (aj:=cR l ns) (cQ:=cN P (cR l ns) (n+1)) (z:=z) (fr:=fr) (os:=os) (L:=cs.map iH) (λy hy=>by
  refine aR (aT.mp hy) λc h q'1=>?_;obtain rfl:=q'1;exact ⟨c,hc c h,rfl⟩)
 rw [dk] at s1;have m1:=λ(c:Cx) fr=>ru (c:=c) (z:=z) (fr:=fr) (os:=os) (x:=ah "") vH;refine cO (UK (P:=P) (l:=l) (ns:=ns) (z:=z) (n:=n) (os:=os) (fr:=[(ah "text",.str (cX (cs.map iH)))]) (cs:=cs) hz (ai hl (ak rfl))) λc4 e1 g1 k1=>?_;have Vw:fc (λfr=>fe []) (λuq i src=>m9 (cy P (cR l ns) (n+1)) uq i src) ⟨cs.map (bp∘iH),ae⟩ z ⟨[("text",.str (cX (cs.map iH)))],os⟩=_:=e1;have j1:=λ(c:Cx) fr=>y9 (c:=c) (z:=z) (fr:=fr) g1 (by rw [Gj];exact hs);rw [Gj] at j1;refine ⟨c4,gu (fr:=[(ah "text",.str (cX (cs.map iH)))]) ?_,k1⟩;(delta zH;with_reducible repeat' (first|apply m1|apply s1|apply Vw|apply j1|exact dR _ _ _|exact br|apply bt|apply bq|apply bE|apply bO|exact aE|apply av (by decide)|exact ba|apply bg (by decide)|exact aI|apply aO|exact bA|(apply b7;apply bX)|(apply bV;focus rfl)|rfl))
end
noncomputable def rX:List Nat:=[97,98,99,100,107,108,112,122]
noncomputable def Sf:List Nat:=[0,1,2,4,7,12]
noncomputable def WU:List Nat:=[13187,13189,8451,8517,13188,13190,13184,13169]
def Yp:List Str:=[ah "ma",ah "kb",iH 176++ah "c",ah "d",ah "ka",ah "mb",ah "pa",ah "hpa"]
noncomputable def WV:List Nat:=[173,847,6150,8203,8205,8288,65024,65279]
noncomputable def yF(e k:Nat):Nat:=if k=0 then rX.getD e 0 else if k=1 then 65+(rX.getD e 0-97) else if k<8 then 119808+52*Sf.getD (k-2) 0+(rX.getD e 0-97) else if k=8 then WU.getD e 0 else WV.getD e 0
def BW(e k:Nat):Str:=if k<8 then iH (rX.getD e 0) else if k=8 then Yp.getD e ⟨#[]⟩ else ah ""
def WW(e k:Nat):Bool:=decide (yd (yF e k)=BW e k)&&decide (yF e k<1114112)&&decide ((BW e k).cps.toList.length<=3)&&(BW e k).cps.toList.all λc=>decide (c<1114112)
theorem Zb:((mR 10).all λk=>(mR 8).all λe=>WW e k)=ao:=by decide+kernel
def nI(c:Nat)(w:Str):O:=.tuple [.str (iH c),.str w]
theorem UL{i:Int}{s:eP}(h:0<=i/\i<1114112):Ph [.int i] z s=af (.str ⟨#[i.toNat]⟩,s):=Ba h z _
theorem WX{i:Int}(hi:i=(k:Int))(hk:k<1114112)(fr:eB)(os:List O):dN (cx P aj cQ ao) (.bi "chr") [.int i] z ⟨fr,os⟩=af (.ret (.str (iH k)),⟨fr,os⟩):=Nh (by
 subst hi;refine Wv.trans ((UL ⟨dY _,oG.mpr hk⟩).trans ?_);rw [me];rfl)
theorem mod_int{x y:Int}(hy:y≠0)(h:kS x y=k)(fr:eB)(os:List O):binC c .Mod (.int x) (.int y) z ⟨fr,os⟩=af (.int k,⟨fr,os⟩):=by
 show (if y=0 then fail else aA (bD (kS x y)):M V) z ⟨fr,os⟩=_;rw [if_neg hy,h];rfl
theorem getD_at{l:List α}{d:α}(h:k<l.length):l[k]? =af (l.getD k d):=by
 rw [qj,de h];rfl
theorem Ic{t:Nat}(ht:os[t]? =af (.list xs))(hx:xs=ks.map λ(k:Nat)=>bD k)(hk:k<ks.length)(hl:ks.length<=100):d0 c (.ref t) (.int k) z ⟨fr,os⟩=af (.int (ks.getD k 0:Nat),⟨fr,os⟩):=by
 subst hx;exact ya (.inl ht) (by rw [eg,getD_at (d:=0) hk];rfl) (by simp;exact bR hl)
theorem UM{t:Nat}{ks:List Str}(ht:os[t]? =af (.list xs))(hx:xs=ks.map .str)(hk:k<ks.length)(hl:ks.length<=100):d0 c (.ref t) (.int k) z ⟨fr,os⟩=af (.str (ks.getD k ⟨#[]⟩),⟨fr,os⟩):=by
 subst hx;exact ya (.inl ht) (by rw [eg,getD_at (d:=⟨#[]⟩) hk];rfl) (by simp;exact bR hl)
theorem Ep{e:Nat}(he:e<8)(hk:k<10):yd (yF e k)=BW e k/\yF e k<1114112/\(BW e k).cps.toList.length<=3/\∀c∈(BW e k).cps.toList,c<1114112:=by
 have h:=bK.mp (bK.mp Zb k (BV.mpr hk)) e (BV.mpr he);unfold WW at h;simp only [aS,decide_eq_true_eq] at h;exact ⟨h.1.1.1,h.1.1.2,h.1.2,λc hc=>iK (bK.mp h.2 c hc)⟩
theorem mul_int{x y:Int}(hx:x.natAbs<=1000000000)(hy:y.natAbs<=1000000000)(fr:eB)(os:List O):binC c .Mult (.int x) (.int y) z ⟨fr,os⟩=af (.int (x*y),⟨fr,os⟩):=Ba (a:=aA (bD (x*y))) (b:=fail) ⟨hx,hy⟩ z _
theorem sub_int(x y:Int)(fr:eB)(os:List O):binC c .Sub (.int x) (.int y) z ⟨fr,os⟩=af (.int (x-y),⟨fr,os⟩):=rfl
theorem Rg{x y:Int}(hx:x.natAbs<=1000000000)(hy:y.natAbs<=1000000000)(h0:y≠0)(h:BK x y=k)(fr:eB)(os:List O):binC c .FloorDiv (.int x) (.int y) z ⟨fr,os⟩=af (.int k,⟨fr,os⟩):=by
 show (if y=0∨x.natAbs>1000000000∨y.natAbs>1000000000 then fail else aA (bD (BK x y)):M V) z ⟨fr,os⟩=_;rw [if_neg (λq=>q.elim h0 λq=>q.elim (cC.mpr hx) (cC.mpr hy)),h];rfl
theorem Oz:ah "abcdklpz" =cX (rX.map iH):=by kernel_rfl
theorem WY{e:Nat}(he:e<8):97<=rX.getD e 0/\rX.getD e 0<=122:=by
 have:∀e<8,97<=rX.getD e 0/\rX.getD e 0<=122:=by decide
 exact this e he
theorem Er{e:Nat}(he:e<8)(hk:k<10):∃os' t,cN P aj (n+1) (.top 217) [.int ((8*k+e:Nat):Int)] os z=af (.ret (.ref t),os')/\Hi os.length os os'/\os'[t]? =af (nI (yF e k) (BW e k)):=by
 rw [zX];obtain ⟨g1,g2⟩:=WY he;have hs:=(Ep he hk).2.1;have f1:kS ((8*k+e:Nat):Int) 8=(e:Nat):=by refine (Int.fmod_eq_emod_of_nonneg _ (by decide)).trans ?_;exact congrArg sJ ((Nat.mul_add_mod _ _ _).trans (Nat.mod_eq_of_lt he))
 have f2:BK ((8*k+e:Nat):Int) 8=(k:Nat):=by refine (Int.fdiv_eq_ediv_of_nonneg _ (by decide)).trans ?_;exact congrArg sJ ((Nat.mul_add_div (ak rfl) _ _).trans (congrArg _ (Nat.div_eq_of_lt he)))
 have d1:=λ(c:Cx) fr (os:List O)=>mod_int (z:=z) (by decide) f1 (c:=c) fr os;have d2:=λ(c:Cx) fr (os:List O)=>Rg (z:=z) (qk (dS (c9 8 (bS hk)) (bS he)) rfl) (by decide) (by decide) f2 (c:=c) fr os;have i1:∀(c:Cx) (s:eP),d0 c (.str "abcdklpz") (.int (e:Nat)) z s=af (.str (iH (rX.getD e 0)),s):=λc s=>by
  refine Oz▸ ?_;exact Sa (L:=rX.map iH) (λy hy=>by
   refine aR (aT.mp hy) λc hc q'1=>?_;obtain rfl:=q'1;have:∀c∈rX,c<1114112:=by decide
   exact ⟨c,this c hc,rfl⟩) (by rw [eg,getD_at (d:=0) (show e<rX.length from he)];rfl) (by decide)
 have o1:=λfr (os:List O)=>Ox (P:=P) (cQ:=cN P aj n) (z:=z) (os:=os) (aj:=aj) (rX.getD e 0) fr;obtain ⟨F,hF⟩:∃F:List V->M CR,F=dN (cy P aj n) (.bi "chr"):=⟨_,rfl⟩;have ch:∀{k:Nat}{i:Int},i=(k:Int)->k<1114112->∀fr os,F [.int i] z ⟨fr,os⟩=af (.ret (.str (iH k)),⟨fr,os⟩):=λh1 h2 fr os=>by refine hF▸ ?_;exact WX h1 h2 fr os
 have p1:=λfr (os:List O)=>dW (o:=nI (yF e k) (BW e k)) rfl z fr os;have q0:=λ(os:List O)=>eq_int (a:=(k:Nat)) (b:=0) os;have start:∀r,jO (cy P aj n) z ⟨[("draw",.int ((8*k+e:Nat):Int)),("letter",.str (iH (rX.getD e 0))),("place",.int ((rX.getD e 0:Nat)-97)),("dress",.int (k:Nat))],os⟩=r->iT (cy P aj n) z ⟨[("draw",.int ((8*k+e:Nat):Int))],os⟩=r:=λr h=>by
  (delta iT qE qD;with_reducible repeat' (first|apply d1|apply i1|apply o1|apply sub_int|apply d2|apply h|apply eZ|(apply fL (by decide))|exact dR _ _ _|exact br|apply bt|apply bq|apply bE|apply bO|exact aE|apply av (by decide)|exact ba|apply bg (by decide)|exact aI|apply aO|exact bA|(apply b7;apply bX)|(apply bV;focus rfl)|rfl))
 by_cases h0:k=0
 ·subst h0;refine ⟨os++ [nI (yF e 0) (BW e 0)],os.length,gu (fr:=[(ah "draw",.int ((8*0+e:Nat):Int)),(ah "letter",.str (iH (rX.getD e 0))),(ah "place",.int ((rX.getD e 0:Nat)-97)),(ah "dress",.int (0:Nat))]) (start _ ?_),Hi.grow (ax _) _,cK⟩;have q:=q0 os;rw [decide_eq_true (show ((0:Nat):Int)=0 from rfl)] at q;have p2:∀fr (os:List O),alloc (.tuple [.str (iH (rX.getD e 0)),.str (iH (rX.getD e 0))]) z ⟨fr,os⟩=af (.ref os.length,⟨fr,os++ [nI (yF e 0) (BW e 0)]⟩):=p1;(delta jO;with_reducible repeat' (first|(apply kG;exact q)|apply p2|exact dR _ _ _|exact br|apply bt|apply bq|apply bE|apply bO|exact aE|apply av (by decide)|exact ba|apply bg (by decide)|exact aI|apply aO|exact bA|(apply b7;apply bX)|(apply bV;focus rfl)|rfl))
 have n0:=q0 os;rw [decide_eq_false (show¬((k:Nat):Int)=0 from λq=>h0 (kW q))] at n0;have OU:∀r,jN (cy P aj n) z ⟨[("draw",.int ((8*k+e:Nat):Int)),("letter",.str (iH (rX.getD e 0))),("place",.int ((rX.getD e 0:Nat)-97)),("dress",.int (k:Nat))],os⟩=r->iT (cy P aj n) z ⟨[("draw",.int ((8*k+e:Nat):Int))],os⟩=r:=λr h=>start _ (by
  (delta jO;with_reducible repeat' (first|(apply kG;exact n0)|(apply ite_no;focus exact bh)|apply h|exact dR _ _ _|exact br|apply bt|apply bq|apply bE|apply bO|exact aE|apply av (by decide)|exact ba|apply bg (by decide)|exact aI|apply aO|exact bA|(apply b7;apply bX)|(apply bV;focus rfl)|rfl)))
 have q1:=eq_int (a:=(k:Nat)) (b:=1) os;by_cases h1:k=1
 ·subst h1;refine ⟨os++ [nI (yF e 1) (BW e 1)],os.length,gu (fr:=[(ah "draw",.int ((8*1+e:Nat):Int)),(ah "letter",.str (iH (rX.getD e 0))),(ah "place",.int ((rX.getD e 0:Nat)-97)),(ah "dress",.int (1:Nat))]) (OU _ ?_),Hi.grow (ax _) _,cK⟩;rw [decide_eq_true (show ((1:Nat):Int)=1 from rfl)] at q1;have c1:=ch (k:=yF e 1) (i:=65+(((rX.getD e 0:Nat):Int)-97)) (by show _=((65+(rX.getD e 0-97):Nat):Int);exact congrArg (65+ ·) (wC g1).symm) hs;have p2:∀fr (os:List O),alloc (.tuple [.str (iH (yF e 1)),.str (iH (rX.getD e 0))]) z ⟨fr,os⟩=af (.ref os.length,⟨fr,os++ [nI (yF e 1) (BW e 1)]⟩):=p1;delta jN;refine (hF).symm▸ ?_;(with_reducible repeat' (first|(apply kG;exact q1)|apply add_int|apply c1|apply p2|exact dR _ _ _|exact br|apply bt|apply bq|apply bE|apply bO|exact aE|apply av (by decide)|exact ba|apply bg (by decide)|exact aI|apply aO|exact bA|(apply b7;apply bX)|(apply bV;focus rfl)|rfl))
 rw [decide_eq_false (show¬((k:Nat):Int)=1 from λq=>h1 (kW q))] at q1;have OV:∀r,jM (cy P aj n) z ⟨[("draw",.int ((8*k+e:Nat):Int)),("letter",.str (iH (rX.getD e 0))),("place",.int ((rX.getD e 0:Nat)-97)),("dress",.int (k:Nat))],os⟩=r->iT (cy P aj n) z ⟨[("draw",.int ((8*k+e:Nat):Int))],os⟩=r:=λr h=>OU _ (by
  (delta jN;with_reducible repeat' (first|(apply kG;exact q1)|(apply ite_no;focus exact bh)|apply h|exact dR _ _ _|exact br|apply bt|apply bq|apply bE|apply bO|exact aE|apply av (by decide)|exact ba|apply bg (by decide)|exact aI|apply aO|exact bA|(apply b7;apply bX)|(apply bV;focus rfl)|rfl)))
 have e1:yF e k=if k<8 then 119808+52*Sf.getD (k-2) 0+(rX.getD e 0-97) else if k=8 then WU.getD e 0 else WV.getD e 0:=by
  unfold yF;(refine (if_neg h0).trans ?_;exact (if_neg h1))
 by_cases h2:k<8
 ·have hw:BW e k=iH (rX.getD e 0):=if_pos h2;rw [if_pos h2] at e1;have ha:=λfr=>dW (o:=.list [.int 0,.int 1,.int 2,.int 4,.int 7,.int 12]) rfl z fr os;have i2:∀(c:Cx) fr,d0 c (.ref os.length) (.int (((k:Nat):Int)-2)) z ⟨fr,os++ [.list [.int 0,.int 1,.int 2,.int 4,.int 7,.int 12]]⟩=af (.int (Sf.getD (k-2) 0:Nat),⟨fr,os++ [.list [.int 0,.int 1,.int 2,.int 4,.int 7,.int 12]]⟩):=λc fr=>by
   rw [show ((k:Nat):Int)-2=((k-2:Nat):Int) from (wC (qe (xk h0) (ym h1))).symm];exact Ic (ks:=Sf) cK rfl (show k-2<6 from yE (vA (dF h2) 2)) (by decide)
  have hal:Sf.getD (k-2) 0<=12:=by
   have:∀j<6,Sf.getD j 0<=12:=by decide
   exact this (k-2) (yE (vA (dF h2) 2))
  have m2:=λ(c:Cx) fr (os:List O)=>mul_int (z:=z) (x:=52) (y:=(Sf.getD (k-2) 0:Nat)) (by decide) (qk hal rfl) (c:=c) fr os;have c1:=ch (k:=yF e k) (i:=119808+52*((Sf.getD (k-2) 0:Nat):Int)+(((rX.getD e 0:Nat):Int)-97)) (by rw [e1];exact congrArg _ (wC g1).symm) hs;have p2:∀fr (os:List O),alloc (.tuple [.str (iH (yF e k)),.str (iH (rX.getD e 0))]) z ⟨fr,os⟩=af (.ref os.length,⟨fr,os++ [nI (yF e k) (BW e k)]⟩):=by rw [hw] at p1 ⊢;exact p1
  have lt:decide (((k:Nat):Int)<8)=ao:=decide_eq_true (oG.mpr h2);refine ⟨os++ [.list [.int 0,.int 1,.int 2,.int 4,.int 7,.int 12]]++ [nI (yF e k) (BW e k)],_,gu (fr:=[(ah "draw",.int ((8*k+e:Nat):Int)),(ah "letter",.str (iH (rX.getD e 0))),(ah "place",.int ((rX.getD e 0:Nat)-97)),(ah "dress",.int (k:Nat))]) (OV _ ?_),(Hi.grow (ax _) _).trans (Hi.grow (by refine aq▸ ?_;exact aF _ _) _),cK⟩;delta jM;refine (hF).symm▸ ?_;(with_reducible repeat' (first|exact DW|(apply bV;focus exact lt)|apply ha|apply sub_int|apply i2|apply m2|apply add_int|apply c1|apply p2|exact dR _ _ _|exact br|apply bt|apply bq|apply bE|apply bO|exact aE|apply av (by decide)|exact ba|apply bg (by decide)|exact aI|apply aO|exact bA|(apply b7;apply bX)|(apply bV;focus rfl)|rfl))
 have nlt:¬decide (((k:Nat):Int)<8)=ao:=by refine (decide_eq_false (by exact λq=>h2 (oG.mp q)))▸ ?_;exact bh
 rw [if_neg h2] at e1;have OW:∀r,jL (cy P aj n) z ⟨[("draw",.int ((8*k+e:Nat):Int)),("letter",.str (iH (rX.getD e 0))),("place",.int ((rX.getD e 0:Nat)-97)),("dress",.int (k:Nat))],os⟩=r->iT (cy P aj n) z ⟨[("draw",.int ((8*k+e:Nat):Int))],os⟩=r:=λr h=>OV _ (by
  (delta jM;with_reducible repeat' (first|exact DW|(apply ite_no;focus exact nlt)|apply h|exact dR _ _ _|exact br|apply bt|apply bq|apply bE|apply bO|exact aE|apply av (by decide)|exact ba|apply bg (by decide)|exact aI|apply aO|exact bA|(apply b7;apply bX)|(apply bV;focus rfl)|rfl)))
 have q8:=eq_int (a:=(k:Nat)) (b:=8) os;by_cases h8:k=8
 ·subst h8;rw [if_pos rfl] at e1;rw [decide_eq_true (show ((8:Nat):Int)=8 from rfl)] at q8;have ha:=λfr=>dW (o:=.list [.int 13187,.int 13189,.int 8451,.int 8517,.int 13188,.int 13190,.int 13184,.int 13169]) rfl z fr os;have i2:∀(c:Cx) fr,d0 c (.ref os.length) (.int (e:Nat)) z ⟨fr,os++ [.list [.int 13187,.int 13189,.int 8451,.int 8517,.int 13188,.int 13190,.int 13184,.int 13169]]⟩=af (.int (WU.getD e 0:Nat),_):=λc fr=>Ic (ks:=WU) cK rfl he (by decide);have c1:=ch (k:=yF e 8) (i:=((WU.getD e 0:Nat):Int)) (by exact congrArg _ (e1)) hs;have c2:=ch (k:=176) (i:=176) rfl (by decide);have ad:∀(c:Cx) (s:eP),binC c .Add (.str (iH 176)) (.str "c") z s=af (.str (iH 176++ah "c"),s):=λc s=>Gb (by decide+kernel);have hb:=λfr (os:List O)=>dW (o:=.list [.str "ma",.str "kb",.str (iH 176++ah "c"),.str "d",.str "ka",.str "mb",.str "pa",.str "hpa"]) rfl z fr os;have i3:∀(c:Cx) fr (os:List O),d0 c (.ref os.length) (.int (e:Nat)) z ⟨fr,os++ [.list [.str "ma",.str "kb",.str (iH 176++ah "c"),.str "d",.str "ka",.str "mb",.str "pa",.str "hpa"]]⟩=af (.str (Yp.getD e ⟨#[]⟩),_):=λc fr os=>UM (ks:=Yp) cK rfl he (by decide);have p2:∀fr (os:List O),alloc (.tuple [.str (iH (yF e 8)),.str (Yp.getD e ⟨#[]⟩)]) z ⟨fr,os⟩=af (.ref os.length,⟨fr,os++ [nI (yF e 8) (BW e 8)]⟩):=p1;refine ⟨os++ [.list [.int 13187,.int 13189,.int 8451,.int 8517,.int 13188,.int 13190,.int 13184,.int 13169]]++ [.list [.str "ma",.str "kb",.str (iH 176++ah "c"),.str "d",.str "ka",.str "mb",.str "pa",.str "hpa"]]++ [nI (yF e 8) (BW e 8)],_,gu (fr:=[(ah "draw",.int ((8*8+e:Nat):Int)),(ah "letter",.str (iH (rX.getD e 0))),(ah "place",.int ((rX.getD e 0:Nat)-97)),(ah "dress",.int (8:Nat)),(ah "sign",.str (iH (yF e 8)))]) (OW _ ?_),((Hi.grow (ax _) _).trans (Hi.grow (by refine aq▸ ?_;exact aF _ _) _)).trans (Hi.grow (by rw [aq,aq];exact ai (aF _ _) (aF _ _)) _),cK⟩;delta jL;refine (hF).symm▸ ?_;(with_reducible repeat' (first|(apply kG;exact q8)|apply ha|apply d1|apply i2|apply c1|apply c2|apply ad|apply hb|apply i3|apply p2|apply eZ|(apply fL (by decide))|exact dR _ _ _|exact br|apply bt|apply bq|apply bE|apply bO|exact aE|apply av (by decide)|exact ba|apply bg (by decide)|exact aI|apply aO|exact bA|(apply b7;apply bX)|(apply bV;focus rfl)|rfl))
 rw [if_neg h8] at e1;rw [decide_eq_false (show¬((k:Nat):Int)=8 from λq=>h8 (kW q))] at q8;have hw:BW e k=ah "" :=by unfold BW;(refine (if_neg h2).trans ?_;exact (if_neg h8))
 have ha:=λfr=>dW (o:=.list [.int 173,.int 847,.int 6150,.int 8203,.int 8205,.int 8288,.int 65024,.int 65279]) rfl z fr os;have i2:∀(c:Cx) fr,d0 c (.ref os.length) (.int (e:Nat)) z ⟨fr,os++ [.list [.int 173,.int 847,.int 6150,.int 8203,.int 8205,.int 8288,.int 65024,.int 65279]]⟩=af (.int (WV.getD e 0:Nat),_):=λc fr=>Ic (ks:=WV) cK rfl he (by decide);have c1:=ch (k:=yF e k) (i:=((WV.getD e 0:Nat):Int)) (by rw [e1]) hs;have p2:∀fr (os:List O),alloc (.tuple [.str (iH (yF e k)),.str ""]) z ⟨fr,os⟩=af (.ref os.length,⟨fr,os++ [nI (yF e k) (BW e k)]⟩):=by rw [hw] at p1 ⊢;exact p1
 refine ⟨os++ [.list [.int 173,.int 847,.int 6150,.int 8203,.int 8205,.int 8288,.int 65024,.int 65279]]++ [nI (yF e k) (BW e k)],_,gu (fr:=[(ah "draw",.int ((8*k+e:Nat):Int)),(ah "letter",.str (iH (rX.getD e 0))),(ah "place",.int ((rX.getD e 0:Nat)-97)),(ah "dress",.int (k:Nat))]) (OW _ ?_),(Hi.grow (ax _) _).trans (Hi.grow (by refine aq▸ ?_;exact aF _ _) _),cK⟩;delta jL qC;refine (hF).symm▸ ?_;(with_reducible repeat' (first|(apply kG;exact q8)|(apply ite_no;focus exact bh)|apply ha|apply d1|apply i2|apply c1|apply p2|exact dR _ _ _|exact br|apply bt|apply bq|apply bE|apply bO|exact aE|apply av (by decide)|exact ba|apply bg (by decide)|exact aI|apply aO|exact bA|(apply b7;apply bX)|(apply bV;focus rfl)|rfl))
noncomputable def Ie:List Nat:=[9,72,4,18,5,15,6,75,61,64,66,2]
noncomputable def GD(ns:List Int):List Nat:=(ns.take 12).map (λx=>(kS x 80).toNat)++Ie.drop (ns.take 12).length
def Ig(d:Nat):Nat:=yF (d%8) (d/8)
def C4(d:Nat):Str:=BW (d%8) (d/8)
section
variable{l:bj}{ns:List Int}
theorem Rh:(GD ns).length=12:=by
 unfold GD;rw [aq,aH,kz,fu];show _+(12-_)=12;exact fy (eU _ _)
theorem UN:∀d∈GD ns,d<80:=λd hd=>by
 rcases aG.mp hd with h|h
 ·refine aR (aT.mp h) λx _ q'1=>?_;obtain rfl:=q'1;have h1:=tQ x (b:=80) (by decide);have h2:=Int.fmod_lt_of_pos x (b:=80) (by decide);exact (Int.toNat_lt h1).mpr h2
 ·have:∀d∈Ie,d<80:=by decide
  exact this d (ke h)
theorem Zc(h:c.aj=cR l ns)(h1:l≠160)(h2:l≠149):c.aj.lookup l=af (.list (ns.map .int)):=by
 rw [h];unfold cR;have e1:(l==(160:bj))=bc:=by simpa using h1
 have e2:(l==(149:bj))=bc:=by simpa using h2
 rw [cz,e1];dsimp only;rw [cz,e2];dsimp only;rw [cz,beq_self_eq_true]
theorem Ri{xs:List Int}(hz:∀j∈z,j<os.length)(hf:∀j,fz=af j->j<os.length)(hl:xs.length<=100):
  ∃os',fc (λfr=>fe []) (λuq i src=>pA (cx P (cR l ns) cQ ao) uq i src) ⟨xs.map .int,fz⟩ z ⟨fr,os⟩=af (.ref os.length,⟨fr,os'⟩)/\os'[os.length]? =af (.list ((xs.map λx=>(kS x 80).toNat).map λ(k:Nat)=>bD k))/\Hi os.length os os':=by
 refine cO (iV (fr:=fr) (os:=os) (z:=z) (ups:=λfr=>fe []) (body:=λuq i src=>pA (cx P (cR l ns) cQ ao) uq i src) (turn:=λuq i v=>pz (cx P (cR l ns) cQ ao) uq i v) (fz:=fz) (iv:=bD) (f:=λx=>[bD ((kS x 80).toNat:Nat)]) (l:=xs) (λ_ _ _=>rfl) hz hf (by rw [pM];exact ai hl (ak rfl))
  (λz' hz' a ha iy c4 xs h1 h2 hN=>by
   have hacc:os.length∉z':=λq=>aW _ (hz' _ q);have m1:=λ(c:Cx) fr (os:List O)=>mod_int (z:=z') (x:=a) (y:=80) (k:=(kS a 80).toNat) (by decide) (by have:=tQ a (b:=80) (by decide);exact (vX this).symm) (c:=c) fr os;have p1:=λ(c:Cx) fr=>gV (c:=c) h2 hacc hN (.int ((kS a 80).toNat:Nat)) fr;refine ⟨putF iy "x" (.int a),c4.set os.length (.list (xs++ [.int ((kS a 80).toNat:Nat)])),?_,dA h2,h1.trans (Hi.set (ax _) _)⟩;(delta pz;with_reducible repeat' (first|apply m1|apply p1|exact dR _ _ _|exact br|apply bt|apply bq|apply bE|apply bO|exact aE|apply av (by decide)|exact ba|apply bg (by decide)|exact aI|apply aO|exact bA|(apply b7;apply bX)|(apply bV;focus rfl)|rfl)))) λos' e g1 g2=>?_
 exact ⟨os',e,by rw [g1,pN,dk];rfl,g2⟩
theorem Ih(h1:l≠160)(h2:l≠149)(hz:∀j∈z,j<os.length):∃os' r,cN P (cR l ns) (n+1) (.top 210) [.top l] os z=af (.ret (.ref r),os')/\Hi os.length os os'/\os'[r]? =af (.list ((GD ns).map λ(k:Nat)=>bD k)):=by
 rw [Cf];obtain ⟨cQ,hc⟩:∃c,cx P (cR l ns) c ao=cy P (cR l ns) n:=⟨_,rfl⟩;rw [←hc];have s1:=λfr=>pK (c:=cx P (cR l ns) cQ ao) (z:=z) (fr:=fr) (os:=os) (a:=.none) (b:=.int ((12:Nat):Int)) (s:=.none) (λfr=>Qk (Zc rfl h1 h2) z _) (Ww _ 12) (by rw [fu];exact ai (eU _ _) (ak rfl));rw [←wD] at s1;have s1':∀fr,lJ (cx P (cR l ns) cQ ao) (.top l) .none (.int 12) .none z ⟨fr,os⟩=_:=s1;have tl:(ns.take 12).length<=12:=by rw [fu];exact eU _ _
 have hi0:Hi os.length os (os++ [.list ((ns.take 12).map .int)]):=Hi.grow (ax _) _;have g0:(os++ [cM ((ns.take 12).map .int)])[os.length]? =af (.list ((ns.take 12).map .int)):=cK;have s2:=λfr=>src_list (P:=P) (aj:=cR l ns) (cQ:=cQ) (z:=z) (fr:=fr) g0;refine cO (Ri (P:=P) (l:=l) (ns:=ns) (cQ:=cQ) (z:=z) (os:=os++ [.list ((ns.take 12).map .int)]) (fr:=[(ah "script",.top l)]) (fz:=af os.length) (xs:=ns.take 12) (λj hj=>ag (hz j hj) hi0.len) (λj hj=>by injection hj with hj;subst hj;exact aX g0) (ai tl (ak rfl))) λc4 e1 g1 k1=>?_;have ha:=λfr=>dW (o:=.list [.int 9,.int 72,.int 4,.int 18,.int 5,.int 15,.int 6,.int 75,.int 61,.int 64,.int 66,.int 2]) rfl z fr c4;have g2:(c4++ [cM [.int 9,.int 72,.int 4,.int 18,.int 5,.int 15,.int 6,.int 75,.int 61,.int 64,.int 66,.int 2]])[c4.length]? =af (.list (Ie.map λ(k:Nat)=>bD k)):=cK;have GF:=bI (l:=[cM [.int 9,.int 72,.int 4,.int 18,.int 5,.int 15,.int 6,.int 75,.int 61,.int 64,.int 66,.int 2]]) g1;have c1:=λfr=>Jl (P:=P) (aj:=cR l ns) (cQ:=cQ) (z:=z) (fr:=fr) (.inl GF);rw [aH,aH] at c1;have s3:=λfr=>pK (c:=cx P (cR l ns) cQ ao) (z:=z) (fr:=fr) (a:=.int ((ns.take 12).length:Nat)) (b:=.none) (s:=.none) (eL g2 z) (D6 (Ie.map λ(k:Nat)=>bD k) (ns.take 12).length) (by rw [kz,aH];show 12-_<=1000000;exact ai (BR _ _) (ak rfl));have p1:=λfr=>add_lists (c:=cx P (cR l ns) cQ ao) (z:=z) (bI (l:=[cM ((Ie.map λ(k:Nat)=>bD k).drop (ns.take 12).length)]) GF) cK (by rw [aH,aH,kz,aH];show _+(12-_)<=_;exact qk (ar (fy tl)) rfl) fr;have e:((ns.take 12).map (λx=>(kS x 80).toNat)).map (λ(k:Nat)=>bD k)++(Ie.map λ(k:Nat)=>bD k).drop (ns.take 12).length=(GD ns).map λ(k:Nat)=>bD k:=by
  unfold GD;rw [cw,nr]
 rw [e] at p1;have hi1:=hi0.Lq k1;refine ⟨_,_,gu (fr:=[(ah "script",.top l),(ah "draws",.ref (os++ [cM ((ns.take 12).map .int)]).length)]) (os:=c4++ [.list [.int 9,.int 72,.int 4,.int 18,.int 5,.int 15,.int 6,.int 75,.int 61,.int 64,.int 66,.int 2]]++ [.list ((Ie.map λ(k:Nat)=>bD k).drop (ns.take 12).length)]++ [.list ((GD ns).map λ(k:Nat)=>bD k)]) ?_,?_,cK⟩
 ·(delta xR;with_reducible repeat' (first|apply s1'|apply s2|apply e1|apply ha|apply c1|apply s3|apply p1|apply eZ|(apply fL (by decide))|exact dR _ _ _|exact br|apply bt|apply bq|apply bE|apply bO|exact aE|apply av (by decide)|exact ba|apply bg (by decide)|exact aI|apply aO|exact bA|(apply b7;apply bX)|(apply bV;focus rfl)|rfl))
 ·have l1:=hi1.len;exact ((hi1.trans (Hi.grow (l1) _)).trans (Hi.grow (by rw [aq];exact ai l1 (aF _ _)) _)).trans (Hi.grow (by rw [aq,aq];exact ai (ai l1 (aF _ _)) (aF _ _)) _)
def WrR(b:Nat)(os:List O)(d:Nat)(v:V):Prop:=∃r,v= .ref r/\r≠b/\os[r]? =af (nI (Ig d) (C4 d))
theorem Rj:j9 (Kw P) (.ref 217)=ao:=by kernel_rfl
theorem Rk:j9 (Kw P) (.ref 210)=ao:=by kernel_rfl
theorem Rl:j9 (Kw P) (.ref 222)=ao:=by kernel_rfl
theorem Rm:j9 (Kw P) (.ref 234)=ao:=by kernel_rfl
theorem Rn:j9 (Kw P) (.ref 249)=ao:=by kernel_rfl
theorem WZ{D:List Nat}(hD:∀d∈D,d<80)(hz:∀j∈z,j<os.length)(hf:∀j,fz=af j->j<os.length)(hl:D.length<=100):
  ∃os' vs,fc (λfr=>fe []) (λuq i src=>Ja (cy P (cR l ns) (n+1)) uq i src) ⟨D.map λ(k:Nat)=>bD k,fz⟩ z ⟨fr,os⟩=af (.ref os.length,⟨fr,os'⟩)/\os'[os.length]? =af (.list vs)/\vs.length=D.length/\(∀(k:Nat) a,D[k]? =af a->∃v,vs[k]? =af v/\WrR os.length os' a v)/\Hi os.length os os':=
 Gd (turn:=λuq i v=>DM (cy P (cR l ns) (n+1)) uq i v) (iv:=λ(k:Nat)=>bD k) (R:=WrR os.length) (λ_ _ _=>rfl) hz hf (ai hl (ak rfl))
  (λc4 c7 a v k ⟨r,e,h1,h2⟩=>⟨r,e,h1,(k r h1 (aX h2)).trans h2⟩)
  (λz' hz' a ha iy c4 xs h1 h2 hN=>by
   have hacc:os.length∉z':=λq=>aW _ (hz' _ q);have Co:=aX h2;have had:=hD a ha;refine ck (Er (P:=P) (aj:=cR l ns) (z:=z') (os:=c4) (n:=n) (e:=a%8) (k:=a/8) (xn _ (ak rfl)) (kf had)) λc7 r e1 k1 g1=>?_;rw [show 8*(a/8)+a%8=a from Nat.div_add_mod _ _] at e1;have c1:=λfr as=>gR (P:=P) (aj:=cR l ns) (cQ:=cN P (cR l ns) (n+1)) (z:=z') (fr:=fr) (os:=c4) (as:=as) Rj;have h2':=k1.at Co h2;have p1:=λ(c:Cx) fr=>gV (c:=c) h2' hacc hN (.ref r) fr;have hr:r≠os.length:=λq=>by subst q;rw [h2'] at g1;cases g1
   refine ⟨putF iy "draw" (.int (a:Nat)),c7.set os.length (.list (xs++ [.ref r])),.ref r,?_,dA h2',⟨r,rfl,hr,bC g1 λq=>hr q.symm⟩,λj hj hl=>(bH λq=>hj q.symm).trans (k1.keep j hl),by rw [dI];exact k1.len⟩;(delta DM;with_reducible repeat' (first|(apply gA;apply c1)|apply e1|apply p1|exact dR _ _ _|exact br|apply bt|apply bq|apply bE|apply bO|exact aE|apply av (by decide)|exact ba|apply bg (by decide)|exact aI|apply aO|exact bA|(apply b7;apply bX)|(apply bV;focus rfl)|rfl)))
theorem BF{c:Nat}{w:Str}(e:v= .ref r)(ht:os[r]? =af (nI c w))(x:Cx):DJ x [ah "sign",ah "word"] v z ⟨fr,os⟩=af ((),⟨putF (putF fr "sign" (.str (iH c))) "word" (.str w),os⟩):=by
 subst e;exact aZ (eL ht z fr)
def Zd(b:Nat)(os:List O)(ps:List (V × Nat)):Prop:=∀p∈ps,∃r,p.1= .ref r/\r<b/\os[r]? =af (nI (Ig p.2) (C4 p.2))
theorem W0{ps:List (V × Nat)}(hp:Zd os.length os ps)(hz:∀j∈z,j<os.length)(hf:∀j,fz=af j->j<os.length)(hl:ps.length<=100):
  ∃os',fc (λfr=>fe []) (λuq i src=>DO (cx P (cR l ns) cQ ao) uq i src) ⟨ps.map (·.1),fz⟩ z ⟨fr,os⟩=af (.ref os.length,⟨fr,os'⟩)/\os'[os.length]? =af (.list ((ps.map λp=>C4 p.2).map .str))/\Hi os.length os os':=by
 refine cO (iV (fr:=fr) (os:=os) (z:=z) (ups:=λfr=>fe []) (body:=λuq i src=>DO (cx P (cR l ns) cQ ao) uq i src) (turn:=λuq i v=>DN (cx P (cR l ns) cQ ao) uq i v) (fz:=fz) (iv:=GA) (f:=λp=>[bp (C4 p.2)]) (l:=ps) (λ_ _ _=>rfl) hz hf (by rw [pM];exact ai hl (ak rfl))
  (λz' hz' a ha iy c4 xs h1 h2 hN=>by
   have hacc:os.length∉z':=λq=>aW _ (hz' _ q);obtain ⟨r,e,hr,ht⟩:=hp a ha;have u1:=λ(c:Cx) fr=>BF (z:=z') (fr:=fr) e (h1.at hr ht) c;have p1:=λ(c:Cx) fr=>gV (c:=c) h2 hacc hN (.str (C4 a.2)) fr;refine ⟨putF (putF iy "sign" (.str (iH (Ig a.2)))) "word" (.str (C4 a.2)),c4.set os.length (.list (xs++ [.str (C4 a.2)])),?_,dA h2,h1.trans (Hi.set (ax _) _)⟩;(delta DN;with_reducible repeat' (first|apply u1|apply p1|exact dR _ _ _|exact br|apply bt|apply bq|apply bE|apply bO|exact aE|apply av (by decide)|exact ba|apply bg (by decide)|exact aI|apply aO|exact bA|(apply b7;apply bX)|(apply bV;focus rfl)|rfl)))) λos' e g1 g2=>?_
 exact ⟨os',e,by rw [g1,pN,dk];rfl,g2⟩
theorem W2{ps:List (V × Nat)}(hp:Zd os.length os ps)(hz:∀j∈z,j<os.length)(hf:∀j,fz=af j->j<os.length)(hl:ps.length<=100):
  ∃os',fc (λfr=>fe []) (λuq i src=>DT (cx P (cR l ns) cQ ao) uq i src) ⟨ps.map (·.1),fz⟩ z ⟨fr,os⟩=af (.ref os.length,⟨fr,os'⟩)/\os'[os.length]? =af (.list ((ps.map λp=>iH (Ig p.2)).map .str))/\Hi os.length os os':=by
 refine cO (iV (fr:=fr) (os:=os) (z:=z) (ups:=λfr=>fe []) (body:=λuq i src=>DT (cx P (cR l ns) cQ ao) uq i src) (turn:=λuq i v=>DR (cx P (cR l ns) cQ ao) uq i v) (fz:=fz) (iv:=GA) (f:=λp=>[bp (iH (Ig p.2))]) (l:=ps) (λ_ _ _=>rfl) hz hf (by rw [pM];exact ai hl (ak rfl))
  (λz' hz' a ha iy c4 xs h1 h2 hN=>by
   have hacc:os.length∉z':=λq=>aW _ (hz' _ q);obtain ⟨r,e,hr,ht⟩:=hp a ha;have u1:=λ(c:Cx) fr=>BF (z:=z') (fr:=fr) e (h1.at hr ht) c;have p1:=λ(c:Cx) fr=>gV (c:=c) h2 hacc hN (.str (iH (Ig a.2))) fr;refine ⟨putF (putF iy "sign" (.str (iH (Ig a.2)))) "word" (.str (C4 a.2)),c4.set os.length (.list (xs++ [.str (iH (Ig a.2))])),?_,dA h2,h1.trans (Hi.set (ax _) _)⟩;(delta DR;with_reducible repeat' (first|apply u1|(exact av (by decide) aE)|apply p1|exact dR _ _ _|exact br|apply bt|apply bq|apply bE|apply bO|exact aE|apply av (by decide)|exact ba|apply bg (by decide)|exact aI|apply aO|exact bA|(apply b7;apply bX)|(apply bV;focus rfl)|rfl)))) λos' e g1 g2=>?_
 exact ⟨os',e,by rw [g1,pN,dk];rfl,g2⟩
end
def T3(D:List Nat)(i:Nat):Str:=cX (((D.drop i).take 3).map C4)
noncomputable def Ii:List Nat:=[0,3,6,9]
def tF(L:List Str)(x:Str):List Str:=lets (L.getD (bW.idxOf x) ⟨#[]⟩)
section
variable{l:bj}{ns:List Int}
theorem JF:dN (cx P (cR l ns) cQ ao) (.type "range") [.int 0,.int 12,.int 3] z ⟨fr,os⟩=af (.ret (.ref os.length),⟨fr,os++ [.range 0 12 3]⟩):=Ni (Qu.trans (K8 ⟨by decide,by decide⟩ (dW (o:=.range 0 12 3) rfl z fr os)))
theorem Sh(h:os[i]? =af (.range 0 12 3)):gI (cx P (cR l ns) cQ ao) (.ref i) z ⟨fr,os⟩=af (⟨Ii.map λ(i:Nat)=>bD i,ae⟩,⟨fr,os⟩):=by
 refine (Bu h ⟨by decide,by kernel_rfl⟩).trans ?_;have e:qW 0 12 3=Ii.map λ(i:Nat)=>bD i:=by kernel_rfl
 rw [e]
def Yq(D:List Nat)(b:Nat)(os:List O)(w:Nat):Prop:=w<b/\∃vs,os[w]? =af (.list vs)/\vs.length=D.length/\∀(k:Nat) a,D[k]? =af a->∃r,r<b/\vs[k]? =af (.ref r)/\os[r]? =af (nI (Ig a) (C4 a))
theorem Gk{D:List Nat}{w:Nat}{c4:List O}(hv:vs.length=D.length)(hp:∀(k:Nat) a,D[k]? =af a->∃r,r<b/\vs[k]? =af (.ref r)/\os[r]? =af (nI (Ig a) (C4 a)))(hk:∀j,j<b->c4[j]? =os[j]?)(hb:b<=c4.length):Zd c4.length c4 (((vs.zip D).drop i).take 3)/\(((vs.zip D).drop i).take 3).map (·.1)=(vs.drop i).take 3/\(((vs.zip D).drop i).take 3).map (·.2)=(D.drop i).take 3:=by
 refine ⟨λp YC=>?_,?_,?_⟩
 ·obtain ⟨k,hk'⟩:=uk.mp (ke (nQ YC));obtain ⟨h1,h2⟩:=List.getElem?_zip_eq_some.mp hk';refine cO (hp k p.2 h2) λr h3 h4 h5=>?_;rw [h4] at h1;injection h1 with h1
  exact ⟨r,h1.symm,ag h3 hb,(hk r h3).trans h5⟩
 ·rw [wD,nr,List.map_fst_zip (ar hv)]
 ·rw [wD,nr,List.map_snd_zip (ar hv.symm)]
theorem OA(h:d<80):(C4 d).cps.toList.length<=3/\∀c∈(C4 d).cps.toList,c<1114112:=(Ep (e:=d%8) (k:=d/8) (xn _ (ak rfl)) (kf h)).2.2
theorem Ro(ls:List Str):(cX ls).cps.toList=ls.flatMap λs=>s.cps.toList:=by
 induction ls with
 |nil=>rfl
 |cons a ls ih=>
  show (a++cX ls).cps.toList=_;rw [Jx,ih];rfl
theorem Si{D:List Nat}(hD:∀d∈D,d<80)(i:Nat):(T3 D i).cps.toList.length<=9/\∀c∈(T3 D i).cps.toList,c<1114112:=by
 unfold T3;rw [Ro];have hm:∀s∈((D.drop i).take 3).map C4,s.cps.toList.length<=3/\∀c∈s.cps.toList,c<1114112:=λs hs=>by
  refine aR (aT.mp hs) λd hd q'1=>?_;obtain rfl:=q'1;exact OA (hD d (ke (nQ hd)))
 have hl:(((D.drop i).take 3).map C4).length<=3:=by rw [aH,fu];exact eU _ _
 refine ⟨?_,λc hc=>?_⟩
 ·have:∀ls:List Str,(∀s∈ls,s.cps.toList.length<=3)->(ls.flatMap λs=>s.cps.toList).length<=3*ls.length:=by
   intro ls;induction ls with
   |nil=>exact λ_=>ax _
   |cons a ls ih=>
    intro h;have h1:=h a (fg ..);have h2:=ih λs hs=>h s (i8 _ hs);rw [bz,aq,bb];exact VC h1 h2
  have:=this _ λs hs=>(hm s hs).1;exact ai this (c9 3 hl)
 ·refine aR (cI.mp hc) λs hs hc=>?_;exact (hm s hs).2 c hc
theorem JG{D:List Nat}(hD:∀d∈D,d<80)(i:Nat):(T3 D i).cps.size<=9:=by have:=(Si hD i).1;rwa [cj] at this
theorem is_le:∀i∈Ii,i+3<=12:=by decide
theorem W3{D:List Nat}{w:Nat}(hD:∀d∈D,d<80)(Vh:D.length=12)(hw:Yq D os.length os w)(hz:∀j∈z,j<os.length)(hf:getF fr "written" =af (.ref w)):
  ∃os',fc (λfr=>fe [(ah "written",getF fr "written")]) (λuq i src=>DQ (cx P (cR l ns) cQ ao) uq i src) ⟨Ii.map λ(i:Nat)=>bD i,ae⟩ z ⟨fr,os⟩=af (.ref os.length,⟨fr,os'⟩)/\os'[os.length]? =af (.list ((Ii.map (T3 D)).map .str))/\Hi os.length os os':=by
 refine dZ hw λw0 r'2=>?_;refine cO r'2 λvs hv1 hv2 Vd=>?_;refine cO (iV (fr:=fr) (os:=os) (z:=z) (ups:=λfr=>fe [(ah "written",getF fr "written")]) (body:=λuq i src=>DQ (cx P (cR l ns) cQ ao) uq i src) (turn:=λuq i v=>DP (cx P (cR l ns) cQ ao) uq i v) (fz:=none) (iv:=λ(i:Nat)=>bD i) (f:=λi=>[bp (T3 D i)]) (l:=Ii) (λ_ _ _=>rfl) hz (λ_ h=>by injection h) (by rw [pM];decide)
  (λz' hz' a ha iy c4 xs h1 h2 hN=>by
   have hacc:os.length∉z':=λq=>aW _ (hz' _ q);have Co:=aX h2;have u1:getF (fe [(ah "written",getF fr "written")]) "written" =af (.ref w):=by rw [hf];exact ba
   have l1:=λs=>iL (z:=z') (s:=s) u1;have Vi:=h1.at w0 hv1;have s1:∀(c:Cx) fr,lJ c (.ref w) (.int (a:Nat)) (.int (((a:Nat):Int)+3)) .none z' ⟨fr,c4⟩=af (.ref c4.length,⟨fr,c4++ [.list ((vs.drop a).take (a+3-a))]⟩):=λc fr=>pK (c:=c) (z:=z') (fr:=fr) (o:=.ref w) (λfr=>eL Vi z' fr) (Nt vs (i:=a) (j:=a+3) (aF _ _) (ai (ai (is_le a ha) (ar Vh.symm)) (ar hv2.symm))) (by rw [fu];exact qk (ai (eU _ _) (ar (dO _ 3))) rfl);rw [show a+3-a=3 from dO _ _] at s1;obtain ⟨p1,p2,p3⟩:=Gk (i:=a) (c4:=c4++ [.list ((vs.drop a).take 3)]) (w:=w) hv2 Vd (λj hj=>(aJ (aD hj Co)).trans (h1.keep j hj)) (by rw [aq];exact bS (ag Co (aF _ _)));have g0:(c4++ [cM ((vs.drop a).take 3)])[c4.length]? =af (.list ((vs.drop a).take 3)):=cK;have s2:=λfr=>src_list (P:=P) (aj:=cR l ns) (cQ:=cQ) (z:=z') (fr:=fr) g0;obtain ⟨c7,e2,b1,b2⟩:=W0 (P:=P) (l:=l) (ns:=ns) (cQ:=cQ) (z:=z') (os:=c4++ [.list ((vs.drop a).take 3)]) (fr:=putF iy "i" (.int (a:Nat))) (ps:=((vs.zip D).drop a).take 3) (fz:=af c4.length) p1 (λj hj=>by have:=hz' j hj;rw [aq];exact ag (aD this Co) (aF _ _)) (λj hj=>by injection hj with hj;subst hj;exact aX g0) (by rw [fu];exact ai (eU _ _) (ak rfl));rw [p2] at e2;have eb:(((vs.zip D).drop a).take 3).map (λp=>C4 p.2)=((D.drop a).take 3).map C4:=by rw [←p3,dk];rfl
   rw [eb] at b1;have m1:=λ(c:Cx) fr=>ru (c:=c) (z:=z') (fr:=fr) (os:=c4) (x:=ah "") vH;have j1:=λ(c:Cx) fr=>y9 (c:=c) (z:=z') (fr:=fr) b1 (by have:=JG hD a;unfold T3 at this;exact ai this (ak rfl));have hi:Hi os.length os c7:=(h1.trans (Hi.grow ((h1.len)) _)).trans ⟨b2.len,λj hj=>b2.keep j (by rw [aq];exact ag (aD hj Co) (aF _ _))⟩;have h3:c7[os.length]? =af (.list xs):=b2.at (by rw [aq];exact ag Co (aF _ _)) (bI h2);have q1:=λ(c:Cx) fr=>gV (c:=c) h3 hacc hN (.str (T3 D a)) fr;refine ⟨putF iy "i" (.int (a:Nat)),c7.set os.length (.list (xs++ [.str (T3 D a)])),?_,dA h3,hi.trans (Hi.set (ax _) _)⟩;have OD:∀(c:Cx) fr,i4 c os.length (.str (cX (((D.drop a).take 3).map C4))) z' ⟨fr,c7⟩=af ((),⟨fr,c7.set os.length (.list (xs++ [.str (T3 D a)]))⟩):=q1;(delta DP;with_reducible repeat' (first|apply l1|apply add_int|apply s1|apply s2|apply e2|apply m1|apply j1|apply OD|exact dR _ _ _|exact br|apply bt|apply bq|apply bE|apply bO|exact aE|apply av (by decide)|exact ba|apply bg (by decide)|exact aI|apply aO|exact bA|(apply b7;apply bX)|(apply bV;focus rfl)|rfl)))) λos' e g1 g2=>?_
 exact ⟨os',e,by rw [g1,pN,dk];rfl,g2⟩
theorem UO{D:List Nat}{w:Nat}(hD:∀d∈D,d<80)(Vh:D.length=12)(hw:Yq D os.length os w)(hz:∀j∈z,j<os.length)(hf:getF fr "written" =af (.ref w)):
  ∃os',fc (λfr=>fe [(ah "written",getF fr "written")]) (λuq i src=>A9 (cy P (cR l ns) (n+2)) uq i src) ⟨Ii.map λ(i:Nat)=>bD i,ae⟩ z ⟨fr,os⟩=af (.ref os.length,⟨fr,os'⟩)/\os'[os.length]? =af (.list ((Ii.map (T3 D)).map .str))/\Hi os.length os os':=by
 obtain ⟨w0,vs,hv1,hv2,Vd⟩:=hw;refine cO (iV (fr:=fr) (os:=os) (z:=z) (ups:=λfr=>fe [(ah "written",getF fr "written")]) (body:=λuq i src=>A9 (cy P (cR l ns) (n+2)) uq i src) (turn:=λuq i v=>DU (cy P (cR l ns) (n+2)) uq i v) (fz:=none) (iv:=λ(i:Nat)=>bD i) (f:=λi=>[bp (T3 D i)]) (l:=Ii) (λ_ _ _=>rfl) hz (λ_ h=>by injection h) (by rw [pM];decide)
  (λz' hz' a ha iy c4 xs h1 h2 hN=>by
   have hacc:os.length∉z':=λq=>aW _ (hz' _ q);have Co:=aX h2;have u1:getF (fe [(ah "written",getF fr "written")]) "written" =af (.ref w):=by rw [hf];exact ba
   have l1:=λs=>iL (z:=z') (s:=s) u1;have Vi:=h1.at w0 hv1;have s1:∀(c:Cx) fr,lJ c (.ref w) (.int (a:Nat)) (.int (((a:Nat):Int)+3)) .none z' ⟨fr,c4⟩=af (.ref c4.length,⟨fr,c4++ [.list ((vs.drop a).take (a+3-a))]⟩):=λc fr=>pK (c:=c) (z:=z') (fr:=fr) (o:=.ref w) (λfr=>eL Vi z' fr) (Nt vs (i:=a) (j:=a+3) (aF _ _) (ai (ai (is_le a ha) (ar Vh.symm)) (ar hv2.symm))) (by rw [fu];exact qk (ai (eU _ _) (ar (dO _ 3))) rfl);rw [show a+3-a=3 from dO _ _] at s1;obtain ⟨p1,p2,p3⟩:=Gk (i:=a) (c4:=c4++ [.list ((vs.drop a).take 3)]) (w:=w) hv2 Vd (λj hj=>(aJ (aD hj Co)).trans (h1.keep j hj)) (by rw [aq];exact bS (ag Co (aF _ _)));have g0:(c4++ [cM ((vs.drop a).take 3)])[c4.length]? =af (.list ((vs.drop a).take 3)):=cK;have s2:=λfr=>src_list (P:=P) (aj:=cR l ns) (cQ:=cN P (cR l ns) (n+2)) (z:=z') (fr:=fr) g0;obtain ⟨c7,e2,b1,b2⟩:=W2 (P:=P) (l:=l) (ns:=ns) (cQ:=cN P (cR l ns) (n+2)) (z:=z') (os:=c4++ [.list ((vs.drop a).take 3)]) (fr:=putF iy "i" (.int (a:Nat))) (ps:=((vs.zip D).drop a).take 3) (fz:=af c4.length) p1 (λj hj=>by have:=hz' j hj;rw [aq];exact ag (aD this Co) (aF _ _)) (λj hj=>by injection hj with hj;subst hj;exact aX g0) (by rw [fu];exact ai (eU _ _) (ak rfl));rw [p2] at e2;have eb:(((vs.zip D).drop a).take 3).map (λp=>iH (Ig p.2))=(((D.drop a).take 3).map Ig).map iH:=by rw [←p3,dk,dk];rfl
   rw [eb] at b1;have hd:∀d∈(D.drop a).take 3,d<80:=λd hd=>hD d (ke (nQ hd));have h3l:((D.drop a).take 3).length<=3:=by rw [fu];exact eU _ _
   have hsg:∀c∈((D.drop a).take 3).map Ig,c<1114112:=λc hc=>by
    obtain ⟨d,hd',rfl⟩:=aT.mp hc;have:=hd d hd';exact (Ep (e:=d%8) (k:=d/8) (xn _ (ak rfl)) (kf this)).2.1
   have hfo:(((D.drop a).take 3).map Ig).map yd=((D.drop a).take 3).map C4:=by
    rw [dk];exact d7 λd hd'=>(Ep (e:=d%8) (k:=d/8) (by have:=hd d hd';exact xn _ (ak rfl)) (by have:=hd d hd';exact kf this)).1
   have m1:=λ(c:Cx) fr=>ru (c:=c) (z:=z') (fr:=fr) (os:=c4) (x:=ah "") vH;have j1:=λ(c:Cx) fr=>y9 (c:=c) (z:=z') (fr:=fr) b1 (by
    rw [rW λy hy=>by
     obtain ⟨c,hc,rfl⟩:=aT.mp hy;exact ⟨c,hsg c hc,rfl⟩,aH,aH]
    exact ai h3l (ak rfl))
   have lz:∀j∈z',j<c7.length:=λj hj=>by have b:=b2.len;rw [aq] at b;exact ag (aD (hz' j hj) Co) (ai (aF _ _) b)
   obtain ⟨iI,e3,k3⟩:=Lj (P:=P) (l:=l) (ns:=ns) (z:=z') (n:=n) (os:=c7) (cs:=((D.drop a).take 3).map Ig) lz hsg (by rw [aH];exact ai h3l (ak rfl)) (by rw [hfo];have:=JG hD a;unfold T3 at this;exact ai this (ak rfl));rw [hfo] at e3;have c3:=λfr as=>gR (P:=P) (aj:=cR l ns) (cQ:=cN P (cR l ns) (n+2)) (z:=z') (fr:=fr) (os:=c7) (as:=as) Rl;have hi:Hi os.length os c7:=(h1.trans (Hi.grow ((h1.len)) _)).trans ⟨b2.len,λj hj=>b2.keep j (by rw [aq];exact ag (aD hj Co) (aF _ _))⟩;have h3:c7[os.length]? =af (.list xs):=b2.at (by rw [aq];exact ag Co (aF _ _)) (bI h2);have h4:iI[os.length]? =af (.list xs):=k3.at (aX h3) h3;have q1:=λ(c:Cx) fr=>gV (c:=c) h4 hacc hN (.str (T3 D a)) fr;refine ⟨putF iy "i" (.int (a:Nat)),iI.set os.length (.list (xs++ [.str (T3 D a)])),?_,dA h4,(hi.Lq k3).trans (Hi.set (ax _) _)⟩;have OD:∀(c:Cx) fr,i4 c os.length (.str (cX (((D.drop a).take 3).map C4))) z' ⟨fr,iI⟩=af ((),⟨fr,iI.set os.length (.list (xs++ [.str (T3 D a)]))⟩):=q1;(delta DU;with_reducible repeat' (first|apply l1|apply add_int|apply s1|apply s2|apply e2|apply m1|apply j1|(apply gA;apply c3)|apply e3|apply OD|exact dR _ _ _|exact br|apply bt|apply bq|apply bE|apply bO|exact aE|apply av (by decide)|exact ba|apply bg (by decide)|exact aI|apply aO|exact bA|(apply b7;apply bX)|(apply bV;focus rfl)|rfl)))) λos' e g1 g2=>?_
 exact ⟨os',e,by rw [g1,pN,dk];rfl,g2⟩
theorem W4(hl:L.length=4)(h:∀s∈L,s.cps.toList.length<=9/\∀c∈s.cps.toList,c<1114112):Tx (tF L)/\Bz (tF L)=L.map .str:=by
 have hx:∀x∈bW,L.getD (bW.idxOf x) ⟨#[]⟩∈L:=λx hx=>by
  have:bW.idxOf x<L.length:=by rw [hl];exact List.idxOf_lt_length_of_mem hx
  rw [qj,de this];exact rZ this
 refine ⟨⟨λx hx' y hy=>?_,λx hx'=>?_⟩,?_⟩
 ·refine aR (aT.mp hy) λc hc q'6=>?_;obtain rfl:=q'6;exact ⟨c,(h _ (hx x hx')).2 c hc,rfl⟩
 ·show (sH iH _).length<=9;rw [aH];exact (h _ (hx x hx')).1
 ·unfold Bz tF;have:∀x,bp (cX (lets (L.getD (bW.idxOf x) ⟨#[]⟩)))=bp (L.getD (bW.idxOf x) ⟨#[]⟩):=λx=>by rw [Oy]
  rw [d7 λx _=>this x];rcases L with _|⟨a,_|⟨b,_|⟨c,_|⟨d,_|⟨e,L⟩⟩⟩⟩⟩
  ·simp at hl
  ·simp at hl
  ·simp at hl
  ·simp at hl
  ·rfl
  ·simp at hl
theorem OB(h1:l≠160)(h2:l≠149):∃os',cN P (cR l ns) (n+5) (.top 254) [.top l] [] []=af (.ret (.bool ao),os'):=by
 rw [T8];have hz:∀(os:List O),∀j∈([]:List Nat),j<os.length:=λ_ j hj=>absurd hj aU;have hD:=UN (ns:=ns);have Vh:=Rh (ns:=ns);refine ck (Ih (P:=P) (l:=l) (ns:=ns) (z:=[]) (n:=n+3) (os:=[]) h1 h2 (hz _)) λc4 r1 e1 k1 g1=>?_;have c1:=λfr os as=>gR (P:=P) (aj:=cR l ns) (cQ:=cN P (cR l ns) (n+4)) (z:=[]) (fr:=fr) (os:=os) (as:=as) Rk;have s1:=λfr=>src_list (P:=P) (aj:=cR l ns) (cQ:=cN P (cR l ns) (n+4)) (z:=[]) (fr:=fr) g1;refine dD (WZ (P:=P) (l:=l) (ns:=ns) (z:=[]) (n:=n+3) (os:=c4) (fr:=[(ah "script",.top l),(ah "draws",.ref r1)]) (D:=GD ns) (fz:=af r1) hD (hz _) (λj hj=>by injection hj with hj;subst hj;exact aX g1) (ai (ar Vh) (ak rfl))) λc7 vs e2 g2 n2 o2 k2=>?_;have hw:Yq (GD ns) c7.length c7 c4.length:=⟨aX g2,vs,g2,n2,λk a e=>by
  refine aR (o2 k a e) λv hv r'7=>?_;refine cO r'7 λr q1 q2 q3=>?_;subst q1;exact ⟨r,aX q3,hv,q3⟩⟩
 have SI:∀os',Hi c7.length c7 os'->Yq (GD ns) os'.length os' c4.length:=λos' hi=>by
  refine dZ hw λa r'8=>?_;refine cO r'8 λvs b c d=>?_;refine ⟨ag a hi.len,vs,hi.at a b,c,λk x e=>?_⟩;refine cO (d k x e) λr q1 q2 q3=>?_;exact ⟨r,ag q1 hi.len,q2,hi.at q1 q3⟩
 have r3:=λfr=>JF (P:=P) (l:=l) (ns:=ns) (cQ:=cN P (cR l ns) (n+4)) (z:=[]) (fr:=fr) (os:=c7);have s3:=λfr=>Sh (P:=P) (l:=l) (ns:=ns) (cQ:=cN P (cR l ns) (n+4)) (z:=[]) (fr:=fr) (cK:(c7++ [dB 0 12 3])[c7.length]? =af (.range 0 12 3));have X8:Hi c7.length c7 (c7++ [.range 0 12 3]):=Hi.grow (ax _) _;refine cO (W3 (P:=P) (l:=l) (ns:=ns) (cQ:=cN P (cR l ns) (n+4)) (z:=[]) (os:=c7++ [.range 0 12 3]) (fr:=[(ah "script",.top l),(ah "draws",.ref r1),(ah "written",.ref c4.length)]) hD Vh (SI _ X8) (hz _) (bg (by decide) (bg (by decide) ba))) λiI e3 g3 k3=>?_;have aaf:=X8.Lq k3;have r4:=λfr=>JF (P:=P) (l:=l) (ns:=ns) (cQ:=cN P (cR l ns) (n+4)) (z:=[]) (fr:=fr) (os:=iI);have s4:=λfr=>Sh (P:=P) (l:=l) (ns:=ns) (cQ:=cN P (cR l ns) (n+4)) (z:=[]) (fr:=fr) (cK:(iI++ [dB 0 12 3])[iI.length]? =af (.range 0 12 3));have Vx:Hi iI.length iI (iI++ [.range 0 12 3]):=Hi.grow (ax _) _;refine cO (UO (P:=P) (l:=l) (ns:=ns) (z:=[]) (n:=n+2) (os:=iI++ [.range 0 12 3]) (fr:=[(ah "script",.top l),(ah "draws",.ref r1),(ah "written",.ref c4.length),(ah "texts",.ref (c7++ [dB 0 12 3]).length)]) hD Vh (SI _ (aaf.Lq Vx)) (hz _) (bg (by decide) (bg (by decide) ba))) λyf e4 g4 k4=>?_;have aag:=Vx.Lq k4;have Vt:yf[(c7++ [dB 0 12 3]).length]? =af (.list ((Ii.map (T3 (GD ns))).map .str)):=aag.at (aX g3) g3;have hT:∀s∈Ii.map (T3 (GD ns)),s.cps.toList.length<=9/\∀c∈s.cps.toList,c<1114112:=λs hs=>by
  refine aR (aT.mp hs) λi _ q'9=>?_;obtain rfl:=q'9;exact Si hD i
 have hok:∀s∈Ii.map (T3 (GD ns)),eO s=ao:=λs hs=>by
  unfold eO;rw [←zt];exact bK.mpr λc hc=>decide_eq_true ((hT s hs).2 c hc)
 have q4:EJ yf (.ref (iI++ [dB 0 12 3]).length) (.ref (c7++ [dB 0 12 3]).length)=af ao:=Ah (kp (n:=7) g4) (kp (n:=7) Vt) (rV hok) (by show dJ _+1<=20;rw [mO];decide);obtain ⟨tx,etx⟩:=W4 (L:=Ii.map (T3 (GD ns))) rfl hT;rw [←etx] at g4 Vt;refine dx (Ot (P:=P) (aj:=cR l ns) (z:=[]) (n:=n) (os:=yf) tx (hz _) g4) λED d5 K e5 k5 hK hne SG aah=>?_;have c5:=λfr as=>gR (P:=P) (aj:=cR l ns) (cQ:=cN P (cR l ns) (n+4)) (z:=[]) (fr:=fr) (os:=yf) (as:=as) Rm;refine ck (Og (P:=P) (aj:=cR l ns) (z:=[]) (n:=n+2) (os:=ED) tx (hz _) (k5.at (aX Vt) Vt)) λsL d6 e6 k6 aai=>?_;have c6:=λfr as=>gR (P:=P) (aj:=cR l ns) (cQ:=cN P (cR l ns) (n+4)) (z:=[]) (fr:=fr) (os:=ED) (as:=as) Rn;refine cT (Ow (t:=tF (Ii.map (T3 (GD ns)))) hK hne SG) λed1 ed2 ed3=>?_;have SJ:=aah.keep k6;rw [ed1] at SJ;have hnd:(dK (tF (Ii.map (T3 (GD ns)))) (cb 0 4)).Nodup:=BB (qT ..);obtain ⟨q7,q8⟩:=Ov SJ aai (λl hl x hx=>by
  refine aR (aT.mp (bL.mp hl).1) λk _ q'10=>?_;obtain rfl:=q'10;exact N7 (nG (zJ hx).1)) (by rw [En,En];exact ((qi ed3 hnd).mpr ed2).length_eq) (bK.mpr λp hp=>by
  refine aR (aT.mp hp) λx hx q'11=>?_;obtain rfl:=q'11;rw [JC ((ed2 x).mp hx)];simp)
 refine ⟨sL,gu (fr:=[(ah "script",.top l),(ah "draws",.ref r1),(ah "written",.ref c4.length),(ah "texts",.ref (c7++ [dB 0 12 3]).length),(ah "told",.ref (iI++ [dB 0 12 3]).length)]) ?_⟩;(delta R1 Fz Fy Fx Fw Fv;with_reducible repeat' (first|(apply gA;apply c1)|apply e1|apply s1|apply e2|apply r3|apply s3|apply e3|apply r4|apply s4|apply e4|(apply yX;exact q4)|(apply ite_no;focus exact Ut)|(apply gA;apply c5)|apply e5|(apply gA;apply c6)|apply e6|exact Qn q7 q8|apply eZ|exact oB|(apply fL (by decide))|exact dR _ _ _|exact br|apply bt|apply bq|apply bE|apply bO|exact aE|apply av (by decide)|exact ba|apply bg (by decide)|exact aI|apply aO|exact bA|(apply b7;apply bX)|(apply bV;focus rfl)|rfl))
theorem holds02:dQ.Holds:=T7 λP l ns h1 h2 _=>OB (n:=15) h1 h2
end
end
end Mine.Internal
theorem PySem.Challenge.cw_nb0314_02_holds : PySem.Challenge.rw_nb0314_02.Holds :=
  Mine.Internal.holds02
