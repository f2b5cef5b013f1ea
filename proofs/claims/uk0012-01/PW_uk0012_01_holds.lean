import PyProof.Rows.All
import Wide.All
import OpenK.AllK
import KE.BitLaws
import PyProof.GenQ
import PyProof.Draws
import PyProof.EnumMake
import PyProof.TableCode
import Wide.FinOn
import Lean
import PySem.Challenge.RW_uk0012_01
set_option Elab.async false
set_option linter.all false
set_option genSizeOf false
set_option compiler.reuse false
set_option compiler.extract_closed false
set_option backward.match.sparseCases false
set_option bootstrap.genMatcherCode false
set_option genCtorIdx false
set_option maxRecDepth 4000
set_option maxHeartbeats 4000000
open Option renaming none->aa, map_eq_some_iff->ba, bind_some->bz, isSome_iff_exists->b6, map_some->cY, isNone_iff_eq_none->dT, bind_eq_some_iff->gj, getD_some->gw, getD_none->gx, isSome_none->iq
open PySem renaming wpAny_bind->ae, wpAny_mono->af, Value->ag, Shared->ah, wpAny_execs_cons->ao, wpAny_pure->ay, model->aC, wpAny->aD, wpAny_items_cons->aR, wpAny_execs_nil->aW, Scope->aX, Around->bf, wpAny_Assign_Name->bj, builtinLookup_eq_fast->bp, wpAny_Name->bq, wpAny_standAt->bt, wpAny_holding->bu, mainGlobals->bC, wpAny_Call_ofName->bH, typeLookup->bI, typeLookup_type->bM, wpAny_Constant_int->bO, codeAny->bQ, PlainL->bS, builtinsNs->bU, Program->bY, wpAny_Return_some->cm, Seg->cq, recursionLimit->cw, wpAny_Call_method_late->cA, seg_execs_nil->cC, seg_execs_cons->cE, letOwnedTupleGo->cH, wpAny_Constant_str->cK, seg_bind_wrap->cO, codeAny_mono->cP, wpAny_assign_Name->cQ, wpAny_typeLookup_exc->dg, GenState->di, wpAny_newObj_type->dj, wpAny_callSpecial?_slot->dv, sizeLine->dw, Arguments->dD, wpAny_Expr_any->dE, wpAny_isTrue_value->dP, wpAny_loadPart'->dW, wpAny_field->dX, theTreesLotGoes->dY, wpAny_loadPart_at->d8, wpAny_call_entry->eh, pyNext->eF, methodCall->eG, starEach->eL, spliced->eM, NameKind->eN, FuncData->eO, wpAny_truthy_bool->eU, wpAny_call->eV, sliceBounds->eW, closureFor->eX, callEnvC->fc, wpAny_storeName_local->fh, wpAny_newFunctionEnv->fA, wpAny_attempt->fB, wpAny_If->fC, methodCallPos->fD, wpAny_specialOf->f9, wpAny_of_eq->gb, wpAny_Constant_bool->gc, execs->gg, strKind->gu, evalPart_none_step->gz, wpAny_getItem_list_slice->gS, wpAny_List->gU, storeName->gV, noteFrame->gW, foldedSetIterable->gX, Within->gY, wpAny_BinOp->hH, strIterType->hW, excClassObj->hZ, Builtin->ie, wpAny_updateSeq->iu, cellsFrom->iw, Result->iy, sysModules->iB, call_meets->iC, bindArgs->iD, Operator->iE, methodCallForm->iL, firstArgMember->iM, wpAny_setField_rec->je, wpAny_getItem_list->jf, swapsWith->jg, list_append_plainL->ji, arm_eval_Call->jj, arm_eval_Attribute->jk, World->jl, Comprehension->js, plainObj_wpAny_Assign_Attribute->jG, isTrue->jT, codeAny_loop->jU, compTurn->kf, wpAny_noted->kq, valueAt->kr, unpackItems->ku, standAt->ky, pyIter->kz, interactive->kA, handedOut->kB, backTo->kC, OsState->kD, wpAny_rule->ll, sliceRange->lq, wpAny_onRaise->lE, swappedStores->lF, keeperOf->lG, holding->lH, field->lI, comprehension->lJ, wpAny_pyNext_list_item->lP, wpAny_Assign_Subscript->lQ, meets_dict_get_default->lR, codeAny_compStart_list->lS, wpAny_pyNext_list_end->l7, wpAny_isTrue_Compare1->ma, wpAny_For->md, stored->mf, seqIndex?->mh, codeAmong->mi, cLine->mj, ClassData->mv, wpAny_pyIter_revIter->mw, wpAny_AugAssign_Name->mx, codeAny_call_builtin->my, wpAny_load'->mI, wpAny_isTrue_BoolOp->mJ, wpAny_Constant_none->mK, slicePicked->mL, setGen_self->mM, getItem->mO, getAttr->mP, codeAny_forLoop_any->mQ, wordsOf->mR, rawInt->m4, newEnv->m5, evalPart_some_step->m6, Protocol->m8, wpAny_truthy_list->nq, wpAny_pyIter_list->nr, splitAtGen->nu, slot_list_setitem->nv, qualnameIn->nz, wpAny_isInstance->nM, wpAny_getItem_of->nN, wpAny_eqBool_str->nO, entryFor_of_tree->nP, arm_assign_Tuple->nQ
open Bool renaming and_eq_true->ai, false_ne_true->aJ, and_eq_true_iff->bx, not_eq_true'->bG, false_eq_true->bX, eq_iff_iff->c8, or_true->fM, or_eq_true->jD, false_and->j2, eq_false_iff->l5
open List renaming getElem?_eq_some_iff->aj, all_eq_true->ak, mem_cons->aq, getElem?_eq_getElem->au, mem_cons_of_mem->av, length_append->aw, map_cons->aB, mem_append_left->aE, length_map->aG, mem_map->aH, length_cons->aI, range->aN, not_mem_nil->aO, append_nil->aS, getElem?_append_right->aT, lookup_cons->aY, size_toArray->a7, nil_append->a9, cons_append->bc, getElem?_append_left->bg, getD_eq_getElem?_getD->bl, mem_append->bF, append_assoc->bK, mem_of_getElem?->bL, getElem?_reverse->bP, exists_cons_of_length_eq_add_one->bT, take_append_of_le_length->bZ, getElem_mem->b5, map_map->b7, getElem?_map->b8, reverse_reverse->cu, mem_range->cz, nodup_cons->cB, lookup->cG, getElem?_cons_succ->cL, mem_map_of_mem->cM, map_congr_left->cN, mem_append_right->cU, mem_of_mem_take->cZ, contains_eq_mem->c7, take_succ_cons->dh, mem_reverse->dm, map_reverse->dq, filterMap_map->dy, range_succ->dF, map_append->dG, length_filter_le->dH, idxOf_lt_length_of_mem->dJ, replicate->d6, length_reverse->ed, mem_singleton->ej, mem_filterMap->ey, all_cons->ez, isEmpty_iff->eR, eq_nil_of_length_eq_zero->eS, drop_append_of_le_length->eT, mem_of_mem_drop->eZ, length->fj, flatten_append->fk, filterMap_cons->fq, zip_cons_cons->fH, getElem?_drop->fJ, pairwise_iff_getElem->fW, drop_eq_getElem_cons->fY, take_add_one->gk, reverse_cons->gm, nodup_append->gn, getElem?_set->gq, lookup_eq_none_iff->gA, length_eq_zero_iff->gB, mem_flatten->gJ, length_take->gK, take_of_length_le->gN, range_succ_eq_map->gO, getElem?_set_self->gP, filter_eq_nil_iff->gQ, drop_eq_nil_of_le->gR, set_set->gZ, set_append_right->g0, of_mem_zip->hE, length_nil->hG, filter_append->iF, exists_of_findSome?_eq_some->iK, foldl_append->iN, flatMap_cons->iO, ext_getElem?->iP, map_nil->iU, all_map->iV, take_length->iY, mem_flatMap->iZ, length_drop->ja, filter_cons->jb, take_length_add_append->jz, tail->jA, foldl_cons->jB, all_append->jC, mem_or_eq_of_mem_set->jX, forIn_nil->jY, findIdx?_eq_none_iff->jZ, drop_zero->j0, length_filterMap_le->j9, sum_cons->kj, rec->km, map_take->kn, flatten_singleton->kF, take_append_drop->kK, singleton_append->kL, getElem?_eq_none->kM, filterMap_append->kN, contains_iff_mem->kO, casesOn->kP, mem_iff_getElem->kX, getElem_toArray->kY, getElem?_set_ne->kZ, toList_toArray->lr, replicate_succ->lu, getD_cons_zero->ly, append_toArray->lz, map_filterMap->lM, getElem_idxOf->lN, length_range->lV, flatten_cons->lW, any_eq_false->lX, isEmpty_nil->ml, getElem_set->mm, flatten_nil->mq, idxOf_cons->mE, head?_cons->mF, forIn_cons->mG, filter_map->mH, foldl_nil->mW, drop_left->mX, drop_drop->mY, map_drop->ng, map->nh, drop_nil->ni, any_cons->nj, all_nil->nB
open PySem.Heap renaming get?_push_size->ax, get?_push_of_some->aF, SameBut->bW, lt_size->dK, ExtBut->fw, get?_none_of_le->ik, size_push->m3
open Int renaming natCast_nonneg->az, fdiv->aL, toNat_natCast->aP, fmod->aQ, fmod_eq_emod_of_nonneg->aU, fdiv_eq_ediv_of_nonneg->aV, fmod_nonneg_of_pos->cy, fmod_lt_of_pos->cV, natCast_mul->da, natCast_pow->eD, eq_ofNat_of_zero_le->eE, mul_comm->eQ, natCast_add->fy, natAbs_natCast->fZ, mul_nonneg->ir, le_of_lt->jc, mul_add->jQ, le_refl->jR, add_assoc->kG, mul_zero->la, add_zero->lb, add_comm->lh, ediv_emod_unique->lD, pow_pos->lO, add_nonneg->nk, ofNat_sub->nE, mul_assoc->nF, zero_add->oz, ofNat_lt->oA, ofNat_le->oB, le_total->oC
open Nat renaming add_assoc->aK, reduceAdd->aM, pow_le_pow_right->a8, le_trans->bw, mul_comm->bE, le_refl->bN, mod_lt->bR, le_succ->bV, pow_pos->dk, lt_of_lt_of_le->dB, zero_add->dM, min_eq_left->dN, mod_two_eq_zero_or_one->dU, le_add_right->d9, div_add_mod->eB, add_sub_cancel_left->eC, div_eq_of_lt->eY, mul_le_mul_right->fg, zero_mul->fP, pow_succ->fQ, ne_of_lt->fR, le_of_lt->fU, le_mul_of_pos_right->gG, add_mul->gH, mod_eq_of_lt->gM, mul_add_div->ia, add_zero->ib, div_lt_of_lt_mul->il, log2_lt->iz, add_sub_cancel'->iA, lt_of_le_of_lt->iJ, lt_succ_of_lt->iT, sub_self->iW, ne_of_gt->iX, lt_succ_self->jq, zero_le->jL, rec->jM, pow_mul->jN, mul_add_mod->jO, mul_add->jP, lt_irrefl->kE, le_mul_of_pos_left->kI, div_div_eq_div_mul->kJ, le_of_ble_eq_true->kW, pow_add->lK, one_mul->lL, lt_or_gt_of_ne->lU, succ_ne_self->mB, not_lt_of_le->mC, lt_log2_self->mD, not_lt_zero->mV, mul_le_mul->m9, log2->nA
open PySem.Calls renaming spliced_nil->aZ, Name_function_global->bk, loadGlobal_builtin->j1, loadGlobal_global->ke
open Option.some renaming inj->bh, injEq->fi
open Array renaming length_toList->bA, getElem?_eq_getElem->cW, getElem?_toList->eP, toList_push->gh, toArray_toList->ig, getElem?_setIfInBounds->jd, eraseIdxIfInBounds->j3, mem_toList_iff->kT
open PySem.Str renaming ofString->bB, length->du
open PySem.Value renaming bool->bJ, int->dZ, ref->ef, str->ix, none->iI, isStrOf->j4
open ForInStep renaming yield->b9
open PySem.NameKind renaming free->cb, cell->fV
open PySem.W renaming kla_obj->cj, keeps_F->cX, callWith_of->c9, fnMade->dQ, FnAt->eH, Looks->jI, CodeHd->lT, fnX->mS
open PySem.F renaming plainAttrs_list->cI, slot_list_getitem->dR, slot_dict_get->eI, type_list_append->fE, slot_list_extend->fF, slot_list_append->fG, mro_object->gr, plainAttrs_str->gv, slot_list_pop->gE, slot_list_reverse->jm, slot_dict_getitem->jn, plainObj_entry_getattr_hooked->jr, type_list_extend->jx, slot_str_getitem->jy, plainAttrs_dict->jJ, args_dict_get_3->jK, slot_str_split->jV, entry_dict_get->jW, type_list_pop->j7, type_dict_get->j8, store_object->kh, lk_object_getattr->mu, slot_int_rmul->nG, lk_object_ga->oE
open Nat.succ renaming inj->cJ
open Prod.mk renaming injEq->cR
open PySem.Builtin.List renaming listTooLong->cT, listSubscript?->oF, listFitsIndex->oG
open Ne renaming symm->dz
open Function renaming comp->dC, comp_def->kQ
open PySem.Challenge renaming pw_uk0012_01->ee, rw_uk0012_01->mU
open PySem.Expr renaming Name->eA
open PySem.Heap.SameBut renaming update->eJ, refl->oD
open Exists renaming intro->eK
open PySem.Heap.MapOf renaming typeIs->fu, noDict->kp
open PySem.GenOnly renaming setGen->fz
open PySem.Builtin.Str renaming spaceWords->fK
open PyProof.Rows renaming len_list->fO, tail_any->hO, AllBare->ij, subscriptTail->jh, neg_int->jo, Subscript_->jH, toList_beq->oj, lt_int->om, le_int->oo, iadd_str->oq, ge_int->ot, divmod_int->ou, callWith_type1->ox, add_str->oy
open List.cons renaming injEq->gy
open PySem.Builtin.Int renaming intBits->gL
open PySem.Builtin.Generator renaming genWake->ic
open PySem.AutoSeq1 renaming idx_int->iG, sub_tuple_tuple->jv, sub_tuple_list->jE, sub_list_tuple->jF, sub_list_list->jS
open PySem.Builtin.ObjectAttr renaming copiedAttributeGuard->iH, Found->ki
open PySem.Builtin renaming divisionGoesByPylong->iQ, bitAnd->ju, bitNot->lY
open PySem.SeqAt.RcAt renaming lists_lengths->iR
open PySem.Obj renaming mapSeq->iS
open PySem.W.Fast renaming primed->jw
open PySem.SeqAt.EqAt renaming int_int->j5
open PySem.W.KF renaming slot_fn->j6
open PySem.Frame renaming guarded->kc
open Decidable renaming not_not->kH
open Eq renaming trans->kR
open Classical renaming choice->kS
open PySem.StrLaws renaming found_one->kU
open And renaming intro->lj
open PySem.Keeper renaming boundFrame->lC, machine->mr, frame->mZ
open PySem.Builtin.SmallTypes renaming stopIteration->lZ
open PySem.Sem renaming bind_eq_wrap->mz
open PySem.W.KeqHits renaming hit->mT
open PySem.Manifest renaming BuiltinType->m7
open PySem.Builtin.Range renaming small->nH, rangeSize->nK
open PySem.SeqAt.RcNeAt renaming tuples->nR, str_str->nV, none_none->nW, lists_lengths->nX, lists->nY, int_int->nZ, bool_bool->og
open PySem.SeqAt renaming EqAt->oh
open PySem.W.Frag renaming In->oi
namespace Mt
open Lean
def hd (e:Expr):String:=match e.getAppFn with
| .const (.str (.str _ a) b) _=>a++"." ++b
| .const (.str _ b) _=>b
| _=>""
def vL (s l:String):Bool:=(l.splitOn " ").contains s
def cn (s:String):Expr:= .const s.toName []
def no {α:Type}:MetaM α:=throwError "no"
end Mt
namespace Cz
theorem N5 (T:Type) (i:Nonempty T) (p:T->Prop):Nonempty {x:T // (∃ y,p y)->p x}:=(Classical.em (∃ y,p y)).elim (fun h=>h.elim fun y hy=>⟨⟨y,fun _=>hy⟩⟩) fun h=>i.elim fun x=>⟨⟨x,fun k=>(h k).elim⟩⟩
noncomputable def w1 (T:Type) (i:Nonempty T) (p:T->Prop):T:=(kS (N5 T i p)).1
theorem ex1 (T:Type) (i:Nonempty T) (p:T->Prop) (h:∃ x,p x):p (w1 T i p):=(kS (N5 T i p)).2 h
noncomputable def e1 (T:Type) (i:Nonempty T) (p:T->Prop):T:=w1 T i fun x=>¬ p x
theorem all1 (T:Type) (i:Nonempty T) (p:T->Prop) (h:p (e1 T i p)):∀ x,p x:=fun x=>Classical.byContradiction fun k=>ex1 T i (fun x=>¬ p x) ⟨x,k⟩ h
theorem rwg (T:Sort u) (m:T->Prop) (a b:T) (h:a=b) (x:m b):m a:=Eq.mpr (congrArg m h) x
theorem pr {A B:Type} (i:Nonempty A) (j:Nonempty B):Nonempty (A×B):=i.elim fun a=>j.elim fun b=>⟨(a,b)⟩
section
variable (T1:Type) (i1:Nonempty T1) (T2:Type) (i2:Nonempty T2) (T3:Type) (i3:Nonempty T3) (T4:Type) (i4:Nonempty T4) (T5:Type) (i5:Nonempty T5) (T6:Type) (i6:Nonempty T6) (T7:Type) (i7:Nonempty T7) (T8:Type) (i8:Nonempty T8) (T9:Type) (i9:Nonempty T9) (R0:Type) (VJ:Nonempty R0) (Tn:Type) (XJ:Nonempty Tn) (VF:Type) (i12:Nonempty VF)
def u2 (p:T1->T2->Prop) (x:T1×T2):Prop:=p x.1 x.2
noncomputable def e2 (p:T1->T2->Prop):T1×T2:=e1 _ (pr i1 i2) (u2 T1 T2 p)
theorem all2 (p:T1->T2->Prop) (h:u2 T1 T2 p (e2 T1 i1 T2 i2 p)):∀ x1 x2,p x1 x2:=fun x1 x2=>all1 _ (pr i1 i2) _ h (x1,x2)
theorem in2 (p:T1->T2->Prop) (x1:T1) (x2:T2) (h:p x1 x2):∃ x1 x2,p x1 x2:=⟨x1,⟨x2,h⟩⟩
theorem tu2 (p:T1->T2->Prop) (h:∃ x1 x2,p x1 x2):∃ x,u2 T1 T2 p x:=h.elim fun x1 h=>h.elim fun x2 h=>⟨(x1,x2),h⟩
noncomputable def w2 (p:T1->T2->Prop):T1×T2:=w1 _ (pr i1 i2) (u2 T1 T2 p)
theorem ex2 (p:T1->T2->Prop) (h:∃ x1 x2,p x1 x2):u2 T1 T2 p (w2 T1 i1 T2 i2 p):=ex1 _ (pr i1 i2) _ (tu2 T1 T2 p h)
def u3 (p:T1->T2->T3->Prop) (x:T1×T2×T3):Prop:=u2 T2 T3 (p x.1) x.2
noncomputable def e3 (p:T1->T2->T3->Prop):T1×T2×T3:=e1 _ (pr i1 (pr i2 i3)) (u3 T1 T2 T3 p)
theorem all3 (p:T1->T2->T3->Prop) (h:u3 T1 T2 T3 p (e3 T1 i1 T2 i2 T3 i3 p)):∀ x1 x2 x3,p x1 x2 x3:=fun x1 x2 x3=>all1 _ (pr i1 (pr i2 i3)) _ h (x1,x2,x3)
theorem in3 (p:T1->T2->T3->Prop) (x1:T1) (x2:T2) (x3:T3) (h:p x1 x2 x3):∃ x1 x2 x3,p x1 x2 x3:=⟨x1,in2 T2 T3 (p x1) x2 x3 h⟩
theorem tu3 (p:T1->T2->T3->Prop) (h:∃ x1 x2 x3,p x1 x2 x3):∃ x,u3 T1 T2 T3 p x:=h.elim fun x1 h=>(tu2 T2 T3 (p x1) h).elim fun y h=>⟨(x1,y),h⟩
noncomputable def w3 (p:T1->T2->T3->Prop):T1×T2×T3:=w1 _ (pr i1 (pr i2 i3)) (u3 T1 T2 T3 p)
theorem ex3 (p:T1->T2->T3->Prop) (h:∃ x1 x2 x3,p x1 x2 x3):u3 T1 T2 T3 p (w3 T1 i1 T2 i2 T3 i3 p):=ex1 _ (pr i1 (pr i2 i3)) _ (tu3 T1 T2 T3 p h)
def u4 (p:T1->T2->T3->T4->Prop) (x:T1×T2×T3×T4):Prop:=u3 T2 T3 T4 (p x.1) x.2
noncomputable def e4 (p:T1->T2->T3->T4->Prop):T1×T2×T3×T4:=e1 _ (pr i1 (pr i2 (pr i3 i4))) (u4 T1 T2 T3 T4 p)
theorem all4 (p:T1->T2->T3->T4->Prop) (h:u4 T1 T2 T3 T4 p (e4 T1 i1 T2 i2 T3 i3 T4 i4 p)):∀ x1 x2 x3 x4,p x1 x2 x3 x4:=fun x1 x2 x3 x4=>all1 _ (pr i1 (pr i2 (pr i3 i4))) _ h (x1,x2,x3,x4)
theorem in4 (p:T1->T2->T3->T4->Prop) (x1:T1) (x2:T2) (x3:T3) (x4:T4) (h:p x1 x2 x3 x4):∃ x1 x2 x3 x4,p x1 x2 x3 x4:=⟨x1,in3 T2 T3 T4 (p x1) x2 x3 x4 h⟩
theorem tu4 (p:T1->T2->T3->T4->Prop) (h:∃ x1 x2 x3 x4,p x1 x2 x3 x4):∃ x,u4 T1 T2 T3 T4 p x:=h.elim fun x1 h=>(tu3 T2 T3 T4 (p x1) h).elim fun y h=>⟨(x1,y),h⟩
noncomputable def w4 (p:T1->T2->T3->T4->Prop):T1×T2×T3×T4:=w1 _ (pr i1 (pr i2 (pr i3 i4))) (u4 T1 T2 T3 T4 p)
theorem ex4 (p:T1->T2->T3->T4->Prop) (h:∃ x1 x2 x3 x4,p x1 x2 x3 x4):u4 T1 T2 T3 T4 p (w4 T1 i1 T2 i2 T3 i3 T4 i4 p):=ex1 _ (pr i1 (pr i2 (pr i3 i4))) _ (tu4 T1 T2 T3 T4 p h)
def u5 (p:T1->T2->T3->T4->T5->Prop) (x:T1×T2×T3×T4×T5):Prop:=u4 T2 T3 T4 T5 (p x.1) x.2
noncomputable def e5 (p:T1->T2->T3->T4->T5->Prop):T1×T2×T3×T4×T5:=e1 _ (pr i1 (pr i2 (pr i3 (pr i4 i5)))) (u5 T1 T2 T3 T4 T5 p)
theorem all5 (p:T1->T2->T3->T4->T5->Prop) (h:u5 T1 T2 T3 T4 T5 p (e5 T1 i1 T2 i2 T3 i3 T4 i4 T5 i5 p)):∀ x1 x2 x3 x4 x5,p x1 x2 x3 x4 x5:=fun x1 x2 x3 x4 x5=>all1 _ (pr i1 (pr i2 (pr i3 (pr i4 i5)))) _ h (x1,x2,x3,x4,x5)
theorem in5 (p:T1->T2->T3->T4->T5->Prop) (x1:T1) (x2:T2) (x3:T3) (x4:T4) (x5:T5) (h:p x1 x2 x3 x4 x5):∃ x1 x2 x3 x4 x5,p x1 x2 x3 x4 x5:=⟨x1,in4 T2 T3 T4 T5 (p x1) x2 x3 x4 x5 h⟩
theorem tu5 (p:T1->T2->T3->T4->T5->Prop) (h:∃ x1 x2 x3 x4 x5,p x1 x2 x3 x4 x5):∃ x,u5 T1 T2 T3 T4 T5 p x:=h.elim fun x1 h=>(tu4 T2 T3 T4 T5 (p x1) h).elim fun y h=>⟨(x1,y),h⟩
noncomputable def w5 (p:T1->T2->T3->T4->T5->Prop):T1×T2×T3×T4×T5:=w1 _ (pr i1 (pr i2 (pr i3 (pr i4 i5)))) (u5 T1 T2 T3 T4 T5 p)
theorem ex5 (p:T1->T2->T3->T4->T5->Prop) (h:∃ x1 x2 x3 x4 x5,p x1 x2 x3 x4 x5):u5 T1 T2 T3 T4 T5 p (w5 T1 i1 T2 i2 T3 i3 T4 i4 T5 i5 p):=ex1 _ (pr i1 (pr i2 (pr i3 (pr i4 i5)))) _ (tu5 T1 T2 T3 T4 T5 p h)
def u6 (p:T1->T2->T3->T4->T5->T6->Prop) (x:T1×T2×T3×T4×T5×T6):Prop:=u5 T2 T3 T4 T5 T6 (p x.1) x.2
noncomputable def e6 (p:T1->T2->T3->T4->T5->T6->Prop):T1×T2×T3×T4×T5×T6:=e1 _ (pr i1 (pr i2 (pr i3 (pr i4 (pr i5 i6))))) (u6 T1 T2 T3 T4 T5 T6 p)
theorem all6 (p:T1->T2->T3->T4->T5->T6->Prop) (h:u6 T1 T2 T3 T4 T5 T6 p (e6 T1 i1 T2 i2 T3 i3 T4 i4 T5 i5 T6 i6 p)):∀ x1 x2 x3 x4 x5 x6,p x1 x2 x3 x4 x5 x6:=fun x1 x2 x3 x4 x5 x6=>all1 _ (pr i1 (pr i2 (pr i3 (pr i4 (pr i5 i6))))) _ h (x1,x2,x3,x4,x5,x6)
theorem in6 (p:T1->T2->T3->T4->T5->T6->Prop) (x1:T1) (x2:T2) (x3:T3) (x4:T4) (x5:T5) (x6:T6) (h:p x1 x2 x3 x4 x5 x6):∃ x1 x2 x3 x4 x5 x6,p x1 x2 x3 x4 x5 x6:=⟨x1,in5 T2 T3 T4 T5 T6 (p x1) x2 x3 x4 x5 x6 h⟩
theorem tu6 (p:T1->T2->T3->T4->T5->T6->Prop) (h:∃ x1 x2 x3 x4 x5 x6,p x1 x2 x3 x4 x5 x6):∃ x,u6 T1 T2 T3 T4 T5 T6 p x:=h.elim fun x1 h=>(tu5 T2 T3 T4 T5 T6 (p x1) h).elim fun y h=>⟨(x1,y),h⟩
noncomputable def w6 (p:T1->T2->T3->T4->T5->T6->Prop):T1×T2×T3×T4×T5×T6:=w1 _ (pr i1 (pr i2 (pr i3 (pr i4 (pr i5 i6))))) (u6 T1 T2 T3 T4 T5 T6 p)
theorem ex6 (p:T1->T2->T3->T4->T5->T6->Prop) (h:∃ x1 x2 x3 x4 x5 x6,p x1 x2 x3 x4 x5 x6):u6 T1 T2 T3 T4 T5 T6 p (w6 T1 i1 T2 i2 T3 i3 T4 i4 T5 i5 T6 i6 p):=ex1 _ (pr i1 (pr i2 (pr i3 (pr i4 (pr i5 i6))))) _ (tu6 T1 T2 T3 T4 T5 T6 p h)
def u7 (p:T1->T2->T3->T4->T5->T6->T7->Prop) (x:T1×T2×T3×T4×T5×T6×T7):Prop:=u6 T2 T3 T4 T5 T6 T7 (p x.1) x.2
noncomputable def e7 (p:T1->T2->T3->T4->T5->T6->T7->Prop):T1×T2×T3×T4×T5×T6×T7:=e1 _ (pr i1 (pr i2 (pr i3 (pr i4 (pr i5 (pr i6 i7)))))) (u7 T1 T2 T3 T4 T5 T6 T7 p)
theorem all7 (p:T1->T2->T3->T4->T5->T6->T7->Prop) (h:u7 T1 T2 T3 T4 T5 T6 T7 p (e7 T1 i1 T2 i2 T3 i3 T4 i4 T5 i5 T6 i6 T7 i7 p)):∀ x1 x2 x3 x4 x5 x6 x7,p x1 x2 x3 x4 x5 x6 x7:=fun x1 x2 x3 x4 x5 x6 x7=>all1 _ (pr i1 (pr i2 (pr i3 (pr i4 (pr i5 (pr i6 i7)))))) _ h (x1,x2,x3,x4,x5,x6,x7)
theorem in7 (p:T1->T2->T3->T4->T5->T6->T7->Prop) (x1:T1) (x2:T2) (x3:T3) (x4:T4) (x5:T5) (x6:T6) (x7:T7) (h:p x1 x2 x3 x4 x5 x6 x7):∃ x1 x2 x3 x4 x5 x6 x7,p x1 x2 x3 x4 x5 x6 x7:=⟨x1,in6 T2 T3 T4 T5 T6 T7 (p x1) x2 x3 x4 x5 x6 x7 h⟩
theorem tu7 (p:T1->T2->T3->T4->T5->T6->T7->Prop) (h:∃ x1 x2 x3 x4 x5 x6 x7,p x1 x2 x3 x4 x5 x6 x7):∃ x,u7 T1 T2 T3 T4 T5 T6 T7 p x:=h.elim fun x1 h=>(tu6 T2 T3 T4 T5 T6 T7 (p x1) h).elim fun y h=>⟨(x1,y),h⟩
noncomputable def w7 (p:T1->T2->T3->T4->T5->T6->T7->Prop):T1×T2×T3×T4×T5×T6×T7:=w1 _ (pr i1 (pr i2 (pr i3 (pr i4 (pr i5 (pr i6 i7)))))) (u7 T1 T2 T3 T4 T5 T6 T7 p)
theorem ex7 (p:T1->T2->T3->T4->T5->T6->T7->Prop) (h:∃ x1 x2 x3 x4 x5 x6 x7,p x1 x2 x3 x4 x5 x6 x7):u7 T1 T2 T3 T4 T5 T6 T7 p (w7 T1 i1 T2 i2 T3 i3 T4 i4 T5 i5 T6 i6 T7 i7 p):=ex1 _ (pr i1 (pr i2 (pr i3 (pr i4 (pr i5 (pr i6 i7)))))) _ (tu7 T1 T2 T3 T4 T5 T6 T7 p h)
def u8 (p:T1->T2->T3->T4->T5->T6->T7->T8->Prop) (x:T1×T2×T3×T4×T5×T6×T7×T8):Prop:=u7 T2 T3 T4 T5 T6 T7 T8 (p x.1) x.2
noncomputable def e8 (p:T1->T2->T3->T4->T5->T6->T7->T8->Prop):T1×T2×T3×T4×T5×T6×T7×T8:=e1 _ (pr i1 (pr i2 (pr i3 (pr i4 (pr i5 (pr i6 (pr i7 i8))))))) (u8 T1 T2 T3 T4 T5 T6 T7 T8 p)
theorem all8 (p:T1->T2->T3->T4->T5->T6->T7->T8->Prop) (h:u8 T1 T2 T3 T4 T5 T6 T7 T8 p (e8 T1 i1 T2 i2 T3 i3 T4 i4 T5 i5 T6 i6 T7 i7 T8 i8 p)):∀ x1 x2 x3 x4 x5 x6 x7 x8,p x1 x2 x3 x4 x5 x6 x7 x8:=fun x1 x2 x3 x4 x5 x6 x7 x8=>all1 _ (pr i1 (pr i2 (pr i3 (pr i4 (pr i5 (pr i6 (pr i7 i8))))))) _ h (x1,x2,x3,x4,x5,x6,x7,x8)
theorem in8 (p:T1->T2->T3->T4->T5->T6->T7->T8->Prop) (x1:T1) (x2:T2) (x3:T3) (x4:T4) (x5:T5) (x6:T6) (x7:T7) (x8:T8) (h:p x1 x2 x3 x4 x5 x6 x7 x8):∃ x1 x2 x3 x4 x5 x6 x7 x8,p x1 x2 x3 x4 x5 x6 x7 x8:=⟨x1,in7 T2 T3 T4 T5 T6 T7 T8 (p x1) x2 x3 x4 x5 x6 x7 x8 h⟩
def u9 (p:T1->T2->T3->T4->T5->T6->T7->T8->T9->Prop) (x:T1×T2×T3×T4×T5×T6×T7×T8×T9):Prop:=u8 T2 T3 T4 T5 T6 T7 T8 T9 (p x.1) x.2
noncomputable def e9 (p:T1->T2->T3->T4->T5->T6->T7->T8->T9->Prop):T1×T2×T3×T4×T5×T6×T7×T8×T9:=e1 _ (pr i1 (pr i2 (pr i3 (pr i4 (pr i5 (pr i6 (pr i7 (pr i8 i9)))))))) (u9 T1 T2 T3 T4 T5 T6 T7 T8 T9 p)
theorem all9 (p:T1->T2->T3->T4->T5->T6->T7->T8->T9->Prop) (h:u9 T1 T2 T3 T4 T5 T6 T7 T8 T9 p (e9 T1 i1 T2 i2 T3 i3 T4 i4 T5 i5 T6 i6 T7 i7 T8 i8 T9 i9 p)):∀ x1 x2 x3 x4 x5 x6 x7 x8 x9,p x1 x2 x3 x4 x5 x6 x7 x8 x9:=fun x1 x2 x3 x4 x5 x6 x7 x8 x9=>all1 _ (pr i1 (pr i2 (pr i3 (pr i4 (pr i5 (pr i6 (pr i7 (pr i8 i9)))))))) _ h (x1,x2,x3,x4,x5,x6,x7,x8,x9)
def u10 (p:T1->T2->T3->T4->T5->T6->T7->T8->T9->R0->Prop) (x:T1×T2×T3×T4×T5×T6×T7×T8×T9×R0):Prop:=u9 T2 T3 T4 T5 T6 T7 T8 T9 R0 (p x.1) x.2
noncomputable def e10 (p:T1->T2->T3->T4->T5->T6->T7->T8->T9->R0->Prop):T1×T2×T3×T4×T5×T6×T7×T8×T9×R0:=e1 _ (pr i1 (pr i2 (pr i3 (pr i4 (pr i5 (pr i6 (pr i7 (pr i8 (pr i9 VJ))))))))) (u10 T1 T2 T3 T4 T5 T6 T7 T8 T9 R0 p)
theorem all10 (p:T1->T2->T3->T4->T5->T6->T7->T8->T9->R0->Prop) (h:u10 T1 T2 T3 T4 T5 T6 T7 T8 T9 R0 p (e10 T1 i1 T2 i2 T3 i3 T4 i4 T5 i5 T6 i6 T7 i7 T8 i8 T9 i9 R0 VJ p)):∀ x1 x2 x3 x4 x5 x6 x7 x8 x9 UP,p x1 x2 x3 x4 x5 x6 x7 x8 x9 UP:=fun x1 x2 x3 x4 x5 x6 x7 x8 x9 UP=>all1 _ (pr i1 (pr i2 (pr i3 (pr i4 (pr i5 (pr i6 (pr i7 (pr i8 (pr i9 VJ))))))))) _ h (x1,x2,x3,x4,x5,x6,x7,x8,x9,UP)
def u11 (p:T1->T2->T3->T4->T5->T6->T7->T8->T9->R0->Tn->Prop) (x:T1×T2×T3×T4×T5×T6×T7×T8×T9×R0×Tn):Prop:=u10 T2 T3 T4 T5 T6 T7 T8 T9 R0 Tn (p x.1) x.2
noncomputable def e11 (p:T1->T2->T3->T4->T5->T6->T7->T8->T9->R0->Tn->Prop):T1×T2×T3×T4×T5×T6×T7×T8×T9×R0×Tn:=e1 _ (pr i1 (pr i2 (pr i3 (pr i4 (pr i5 (pr i6 (pr i7 (pr i8 (pr i9 (pr VJ XJ)))))))))) (u11 T1 T2 T3 T4 T5 T6 T7 T8 T9 R0 Tn p)
theorem all11 (p:T1->T2->T3->T4->T5->T6->T7->T8->T9->R0->Tn->Prop) (h:u11 T1 T2 T3 T4 T5 T6 T7 T8 T9 R0 Tn p (e11 T1 i1 T2 i2 T3 i3 T4 i4 T5 i5 T6 i6 T7 i7 T8 i8 T9 i9 R0 VJ Tn XJ p)):∀ x1 x2 x3 x4 x5 x6 x7 x8 x9 UP Wx,p x1 x2 x3 x4 x5 x6 x7 x8 x9 UP Wx:=fun x1 x2 x3 x4 x5 x6 x7 x8 x9 UP Wx=>all1 _ (pr i1 (pr i2 (pr i3 (pr i4 (pr i5 (pr i6 (pr i7 (pr i8 (pr i9 (pr VJ XJ)))))))))) _ h (x1,x2,x3,x4,x5,x6,x7,x8,x9,UP,Wx)
def u12 (p:T1->T2->T3->T4->T5->T6->T7->T8->T9->R0->Tn->VF->Prop) (x:T1×T2×T3×T4×T5×T6×T7×T8×T9×R0×Tn×VF):Prop:=u11 T2 T3 T4 T5 T6 T7 T8 T9 R0 Tn VF (p x.1) x.2
noncomputable def e12 (p:T1->T2->T3->T4->T5->T6->T7->T8->T9->R0->Tn->VF->Prop):T1×T2×T3×T4×T5×T6×T7×T8×T9×R0×Tn×VF:=e1 _ (pr i1 (pr i2 (pr i3 (pr i4 (pr i5 (pr i6 (pr i7 (pr i8 (pr i9 (pr VJ (pr XJ i12))))))))))) (u12 T1 T2 T3 T4 T5 T6 T7 T8 T9 R0 Tn VF p)
theorem all12 (p:T1->T2->T3->T4->T5->T6->T7->T8->T9->R0->Tn->VF->Prop) (h:u12 T1 T2 T3 T4 T5 T6 T7 T8 T9 R0 Tn VF p (e12 T1 i1 T2 i2 T3 i3 T4 i4 T5 i5 T6 i6 T7 i7 T8 i8 T9 i9 R0 VJ Tn XJ VF i12 p)):∀ x1 x2 x3 x4 x5 x6 x7 x8 x9 UP Wx Z7,p x1 x2 x3 x4 x5 x6 x7 x8 x9 UP Wx Z7:=fun x1 x2 x3 x4 x5 x6 x7 x8 x9 UP Wx Z7=>all1 _ (pr i1 (pr i2 (pr i3 (pr i4 (pr i5 (pr i6 (pr i7 (pr i8 (pr i9 (pr VJ (pr XJ i12))))))))))) _ h (x1,x2,x3,x4,x5,x6,x7,x8,x9,UP,Wx,Z7)
end
end Cz
set_option genInjectivity false
set_option backward.match.sparseCases false
namespace Om
noncomputable section
inductive N where
| v (i:Nat)
| c (k:Nat)
| a (x y:N)
| m (k:Nat) (x:N)
| r (x:N) (k:Nat)
inductive Z where
| v (i:Nat)
| c (k:Int)
| n (x:N)
| a (x y:Z)
| s (x y:Z)
| m (k:Int) (x:Z)
| r (x:Z) (k:Int)
| g (x:Z)
inductive C where
| nil
| n (q:Nat) (k:Int) (x y:N) (r:C)
| z (q:Nat) (k:Int) (x y:Z) (r:C)
abbrev get {α:Type} (d:α) (l:List α) (i:Nat):α:=km (fun _=>d) (fun x _ ih i=>jM x (fun j _=>ih j) i) l i
abbrev M8 {α:Type} (q:Nat) (a b c d e:α):α:=jM a (fun q _=>jM b (fun q _=>jM c (fun q _=>jM d (fun _ _=>e) q) q) q) q
abbrev N.den (A:List Nat) (e:N):Nat:=N.rec (get 0 A) (fun k=>k) (fun _ _ x y=>x+y) (fun k _ x=>k * x) (fun _ k x=>x * k) e
abbrev Z.den (A:List Nat) (B:List Int) (e:Z):Int:=Z.rec (get 0 B) (fun k=>k) (fun x=>(x.den A:Int)) (fun _ _ x y=>x+y) (fun _ _ x y=>x-y) (fun k _ x=>k * x) (fun _ k x=>x * k) (fun _ x=> -x) e
abbrev C.imp (A:List Nat) (B:List Int) (e:C):Prop:=
 C.rec False (fun q _ x y _ p=>M8 q (x.den A<=y.den A) (x.den A<y.den A) (x.den A=y.den A) (¬ x.den A<=y.den A) (¬ x.den A<y.den A)->p)
  (fun q _ x y _ p=>M8 q (x.den A B<=y.den A B) (x.den A B<y.den A B) (x.den A B=y.den A B) (¬ x.den A B<=y.den A B) (¬ x.den A B<y.den A B)->p) e
abbrev L:=Int×List Int×List Int
def Jp (l:List Int):List Int->List Int:=km (fun m=>m) (fun x l ih m=>km (x::l) (fun y m _=>(x+y)::ih m) m) l
def unit (i:Nat):List Int:=jM [1] (fun _ l=>0::l) i
def yX (l:List Int):List Int->Int:=km (fun _=>0) (fun x _ ih m=>km 0 (fun y m _=>x * y+ih m) m) l
def wM (x y:L):L:=(x.1+y.1,Jp x.2.1 y.2.1,Jp x.2.2 y.2.2)
def yR (k:Int) (x:L):L:=(k * x.1,x.2.1.map (k * ·),x.2.2.map (k * ·))
def ev (A:List Nat) (B:List Int) (x:L):Int:=x.1+yX x.2.1 (A.map fun n:Nat=>(n:Int))+yX x.2.2 B
def N.Ta (e:N):L:=N.rec (fun i=>(0,unit i,[])) (fun k=>(k,[],[])) (fun _ _ x y=>wM x y) (fun k _ x=>yR k x) (fun _ k x=>yR k x) e
def Z.Ta (e:Z):L:=Z.rec (fun i=>(0,[],unit i)) (fun k=>(k,[],[])) (fun x=>x.Ta) (fun _ _ x y=>wM x y) (fun _ _ x y=>wM x (yR (-1) y)) (fun k _ x=>yR k x) (fun _ k x=>yR k x) (fun _ x=>yR (-1) x) e
def OA (q:Nat) (k:Int) (x y:L):L:=yR (M8 q k.natAbs k.natAbs k k.natAbs k.natAbs) (M8 q (wM y (yR (-1) x)) (wM (wM y (yR (-1) x)) (-1,[],[])) (wM y (yR (-1) x)) (wM (wM x (yR (-1) y)) (-1,[],[])) (wM x (yR (-1) y)))
def C.sum (e:C):L:=C.rec (0,[],[]) (fun q k x y _ s=>wM s (OA q k x.Ta y.Ta)) (fun q k x y _ s=>wM s (OA q k x.Ta y.Ta)) e
def C.ok (e:C):Bool:=decide (e.sum.1<0)&&e.sum.2.1.all (fun x=>decide (x<=0))&&e.sum.2.2.all (fun x=>decide (x=0))
theorem Ow (l:List Int):yX l []=0:=by cases l<;>rfl
theorem Fi (l m c:List Int):yX (Jp l m) c=yX l c+yX m c:=by
 induction l generalizing m c with
 | nil=>exact (oz _).symm
 | cons x l ih=>
  cases m with
  | nil=>exact (lb _).symm
  | cons y m=>cases c with | nil=>rfl | cons z c=>show (x+y) * z+yX (Jp l m) c=(x * z+yX l c)+(y * z+yX m c);rw [ih,Int.add_mul];lia
theorem II (k:Int) (l c:List Int):yX (l.map (k * ·)) c=k * yX l c:=by
 induction l generalizing c with
 | nil=>exact (la k).symm
 | cons x l ih=>cases c with | nil=>exact (la k).symm | cons z c=>show k * x * z+yX (l.map (k * ·)) c=k * (x * z+yX l c);rw [ih,jQ,nF]
theorem Ba (i:Nat) (c:List Int):yX (unit i) c=get 0 c i:=by
 induction i generalizing c with
 | zero=>cases c with | nil=>rfl | cons z c=>show 1 * z+0=z;lia
 | succ i ih=>cases c with | nil=>rfl | cons z c=>show 0 * z+yX (unit i) c=get 0 c i;rw [ih];lia
theorem IF (A:List Nat) (i:Nat):get (0:Int) (A.map fun n:Nat=>(n:Int)) i=(get 0 A i:Nat):=by
 induction A generalizing i with
 | nil=>rfl
 | cons x A ih=>cases i with | zero=>rfl | succ i=>exact ih i
section
variable (A:List Nat) (B:List Int)
theorem qX (x y:L):ev A B (wM x y)=ev A B x+ev A B y:=by simp only [wM,ev,Fi];lia
theorem qZ (k:Int) (x:L):ev A B (yR k x)=k * ev A B x:=by simp only [yR,ev,II,jQ]
theorem Gp (k:Int):ev A B (k,[],[])=k:=by show k+0+0=k;lia
theorem N.Sb (e:N):ev A B e.Ta=(e.den A:Int):=by induction e with | v i=>show 0+yX (unit i) _+0=((get 0 A i:Nat):Int);rw [Ba,IF];lia | c k=>exact Gp A B k | a x y h1 h2=>show ev A B (wM x.Ta y.Ta)=_;rw [qX,h1,h2];exact (fy _ _).symm | m k x h=>show ev A B (yR k x.Ta)=_;rw [qZ,h];exact (da _ _).symm | r x k h=>show ev A B (yR k x.Ta)=_;rw [qZ,h,eQ];exact (da _ _).symm
theorem Z.Sb (e:Z):ev A B e.Ta=e.den A B:=by induction e with | v i=>show 0+0+yX (unit i) B=get 0 B i;rw [Ba];lia | c k=>exact Gp A B k | n x=>exact N.Sb A B x | a x y h1 h2=>show ev A B (wM x.Ta y.Ta)=_;rw [qX,h1,h2] | s x y h1 h2=>show ev A B (wM x.Ta (yR (-1) y.Ta))=_;rw [qX,qZ,h1,h2];show _=x.den A B-y.den A B;lia | m k x h=>show ev A B (yR k x.Ta)=_;rw [qZ,h] | r x k h=>show ev A B (yR k x.Ta)=_;rw [qZ,h,eQ] | g x h=>show ev A B (yR (-1) x.Ta)=_;rw [qZ,h];show _= - x.den A B;lia
theorem Fa {q:Nat} {k:Int} {x y:L} {a b:Int} {p1 p2 p3 p4 p5:Prop} (hx:ev A B x=a) (hy:ev A B y=b) (h:M8 q p1 p2 p3 p4 p5) (h1:p1->a<=b) (h2:p2->a<b) (h3:p3->a=b) (h4:p4->¬ a<=b) (h5:p5->¬ a<b):0<=ev A B (OA q k x y):=by have nn:∀ z:Int,0<=z->0<=(k.natAbs:Int) * z:=fun z hz=>ir (az _) hz;rw [OA,qZ];match q,h with | 0,h=>refine nn _ ?_;show 0<=ev A B (wM _ _);rw [qX,qZ,hx,hy];have:=h1 h;lia | 1,h=>refine nn _ ?_;show 0<=ev A B (wM (wM _ _) _);rw [qX,qX,qZ,Gp,hx,hy];have:=h2 h;lia | 2,h=>show 0<=k * ev A B (wM _ _);rw [qX,qZ,hx,hy];have:=h3 h;rw [show b+ -1 * a=0 by lia,la];exact jR 0 | 3,h=>refine nn _ ?_;show 0<=ev A B (wM (wM _ _) _);rw [qX,qX,qZ,Gp,hx,hy];have:=h4 h;lia | _+4,h=>refine nn _ ?_;show 0<=ev A B (wM _ _);rw [qX,qZ,hx,hy];have:=h5 h;lia
theorem K4 (e:C) (h:0<=ev A B e.sum->False):e.imp A B:=by
 induction e with
 | nil=>exact h (by show 0<=ev A B (0,[],[]);rw [Gp];exact jR 0)
 | n q k x y r ih=>intro p;refine ih fun g=>h ?_;show 0<=ev A B (wM _ _);rw [qX];exact nk g (Fa A B (N.Sb A B x) (N.Sb A B y) p (fun h=>oB.mpr h) (fun h=>oA.mpr h) (fun h=>congrArg _ h) (fun h k=>h (oB.mp k)) (fun h k=>h (oA.mp k)))
 | z q k x y r ih=>intro p;refine ih fun g=>h ?_;show 0<=ev A B (wM _ _);rw [qX];exact nk g (Fa A B (Z.Sb A B x) (Z.Sb A B y) p id id id id id)
end
theorem JY (l:List Int):∀ A:List Nat,l.all (fun x=>decide (x<=0))=true->yX l (A.map fun n:Nat=>(n:Int))<=0:=by
 induction l with
 | nil=>exact fun _ _=>jR 0
 | cons x l ih=>intro A h;cases A with | nil=>exact jR 0 | cons n A=>rw [ez,ai] at h;exact Int.add_nonpos (Int.mul_nonpos_of_nonpos_of_nonneg (of_decide_eq_true h.1) (az n)) (ih A h.2)
theorem E9 (l:List Int):∀ B:List Int,l.all (fun x=>decide (x=0))=true->yX l B=0:=by
 induction l with
 | nil=>exact fun _ _=>rfl
 | cons x l ih=>intro B h;cases B with | nil=>rfl | cons n B=>rw [ez,ai] at h;show x * n+yX l B=0;rw [ih B h.2,show x=0 from of_decide_eq_true h.1];lia
theorem no (A:List Nat) (B:List Int) (e:C) (h:e.ok=true):e.imp A B:=by refine K4 A B e fun p=>?_;unfold C.ok at h;rw [ai,ai] at h;have h1:=JY _ A h.1.2;have h2:=E9 _ B h.2;have h3:e.sum.1<0:=of_decide_eq_true h.1.1;unfold ev at p;lia
end
end Om
namespace Om
theorem nor (a b:Prop) (h:¬ (a\/b)):¬ a/\¬ b:=⟨fun x=>h (.inl x),fun x=>h (.inr x)⟩
theorem mnn (x y:Int) (h:decide (0<y)=true):0<=x % y:=Int.emod_nonneg x (Int.ne_of_gt (of_decide_eq_true h))
theorem mlt (x y:Int) (h:decide (0<y)=true):x % y<y:=Int.emod_lt_of_pos x (of_decide_eq_true h)
open Lean Meta Elab Tactic Mt
abbrev V:=List Int
def va:V->V->V
| [],m=>m
| l,[]=>l
| x::l,y::m=>(x+y)::va l m
def vm (k:Int) (l:V):V:=l.map (k * ·)
def vu (i:Nat):V:=(d6 i 0)++[1]
def at_ (v:V) (i:Nat):Int:=v.getD i 0
structure F where
 pf:Expr
 z:Bool
 q:Nat
 x:Expr
 y:Expr
abbrev A:=List Expr×List Expr
def put (l:List Expr) (e:Expr):List Expr×Nat:=
 let i:=l.idxOf e
 (if i<l.length then l else l++[e],i)
def lit (z:Bool) (e:Expr):Option Int:=
 let as:=e.getAppArgs
 let n (e:Expr):Option Int:=if z then e.int? else (e.rawNatLit?.orElse fun _=>e.nat?).map fun n:Nat=>(n:Int)
 if hd e=="HPow.hPow" &&as.size==6 then (n as[4]!).bind fun b=>as[5]!.nat?.map fun k=>b ^ k else n e
def Kd:Nat->Bool->Expr->A->A×Expr×V
| 0,_,e,a=>(a,e,[])
| k+1,z,e,a=>
  let t (s:String) (l:List Expr):Expr:=mkAppN (cn ((if z then "Om.Z." else "Om.N.")++s)) l.toArray
  let num (v:Int):Expr:=if z then toExpr v else mkRawNatLit v.toNat
  let as:=e.getAppArgs
  let y:=as.getD (as.size-1) e
  let x:=as.getD (as.size-2) e
  let two (s:String) (c:Int):A×Expr×V:=
   let (a,x,v):=Kd k z x a
   let (a,y,w):=Kd k z y a
   (a,t s [x,y],va v (vm c w))
  let atom:A×Expr×V:=
   let (l,i):=put (if z then a.2 else a.1) e
   (if z then (a.1,l) else (l,a.2),t "v" [mkRawNatLit i],vu (2 * i+if z then 2 else 1))
  match lit z e with
  | some v=>(a,t "c" [num v],[v])
  | none=>if !e.isApp then atom else match hd e,z with
   | "HAdd.hAdd",_=>two "a" 1
   | "HSub.hSub",true=>two "s" (-1)
   | "Neg.neg",true=>let (a,y,v):=Kd k z y a;(a,t "g" [y],vm (-1) v)
   | "Nat.cast",true=>let (a,y,v):=Kd k false y a;(a,t "n" [y],v)
   | "HMul.hMul",_=>match lit z x,lit z y with
    | some c,_=>let (a,y,v):=Kd k z y a;(a,t "m" [num c,y],vm c v)
    | none,some c=>let (a,x,v):=Kd k z x a;(a,t "r" [x,num c],vm c v)
    | _,_=>atom
   | _,_=>atom
def OX (t:Expr):Option (Nat×Bool×Expr×Expr):=
 let q:=["LE.le","LT.lt","Eq","GE.ge","GT.gt"].idxOf (hd t)
 let z:=hd (t.getAppArgs.getD 0 t)
 if t.isApp&&q<5&&vL z "Nat Int" then (if q<3 then some (q,z=="Int",t.appFn!.appArg!,t.appArg!) else some (q-3,z=="Int",t.appArg!,t.appFn!.appArg!)) else none
abbrev O:=Expr×Expr×Expr
def y6:Nat->Expr->Expr->MetaM (List F×List O)
| 0,_,_=>return ([],[])
| k+1,pf,t=>do
  let t <-whnfR t
  let as:=t.getAppArgs
  let ne (e:Expr):MetaM (List F×List O):=do
   match OX e with
   | some (q,z,x,y)=>
    if q==2 then return ([],[(mkApp3 (cn (if z then "Int.lt_or_gt_of_ne" else "Nat.lt_or_gt_of_ne")) x y pf,<-mkLT x y,<-mkLT y x)])
    else return ([⟨pf,z,q+3,x,y⟩],[])
   | none=>match hd e,e.getAppArgs.toList with
    | "Or",[a,b]=>y6 k (mkApp3 (cn "Om.nor") a b pf) (mkAnd (mkNot a) (mkNot b))
    | _,_=>return ([],[])
  match OX t with
  | some (q,z,x,y)=>return ([⟨pf,z,q,x,y⟩],[])
  | none=>match hd t,as.toList with
   | "And",[a,b]=>
    let x <-y6 k (.proj ``And 0 pf) a
    let y <-y6 k (.proj ``And 1 pf) b
    return (x.1++y.1,x.2++y.2)
   | "Or",[a,b]=>return ([],[(pf,a,b)])
   | "Not",[e]=>ne (<-whnfR e)
   | "Ne",[_,a,b]=>ne (<-mkEq a b)
   | _,_=>if t.isArrow&&hd t.bindingBody! =="False" then ne (<-whnfR t.bindingDomain!) else return ([],[])
def PN (q:Nat) (x y:V):V:=
 let d:=va y (vm (-1) x)
 match q with
| 1=>va d [-1]
| 3=>va (vm (-1) d) [-1]
| 4=>vm (-1) d
| _=>d
abbrev K:=V×V
def Oi (l:List K):Nat->Nat×Nat->Nat×Nat
| 0,b=>b
| i+1,b=>
  let p:=l.countP fun c=>at_ c.1 (i+1) > 0
  let n:=l.countP fun c=>at_ c.1 (i+1)<0
  Oi l i (if p+n > 0&&(b.1==0 ||p * n<b.2) then (i+1,p * n) else b)
def fm:Nat->List K->Option V
| 0,_=>none
| k+1,l=>
  match l.find? (fun c=>at_ c.1 0<0&&c.1.tail.all (· ==0)) with
  | some c=>some c.2
  | none=>
   let v:=(Oi l (l.foldl (fun n c=>max n c.1.length) 0) (0,0)).1
   let (P,r):=l.partition fun c=>at_ c.1 v > 0
   let (N,O):=r.partition fun c=>at_ c.1 v<0
   let l':=P.flatMap (fun p=>N.map fun n=>
    let s:=at_ p.1 v
    let t:= - at_ n.1 v
    let g:Int:=Int.gcd s t
    let f (x y:V):V:=va (vm (t / g) x) (vm (s / g) y)
    (f p.1 n.1,f p.2 n.2))++O
   if v==0 ||l'.length > 400 then none else fm k l'
def lst (t:Expr) (l:List Expr):Expr:=l.foldr (fun x r=> .app (.app (.app (.const ``List.cons [.zero]) t) x) r) (.app (.const ``List.nil [.zero]) t)
def L9:List F->A->A×List (Expr×Expr×V)
| [],a=>(a,[])
| f::l,a=>
  let (a,x,v):=Kd 60 f.z f.x a
  let (a,y,w):=Kd 60 f.z f.y a
  let (a,r):=L9 l a
  (a,(x,y,PN f.q v w)::r)
def PL (e:Expr):List F:=
 let as:=e.getAppArgs
 match as.toList with
| [T,_,_,_,x,y]=>
  let z:=hd T=="Int"
  let s:=if z then "Int" else "Nat"
  let one (h j:String):Expr:=mkApp6 (.const h.toName [.zero,.zero,.zero]) (cn s) (cn s) (cn s) (mkApp2 (.const ("inst" ++(h.splitOn ".").head!).toName [.zero]) (cn s) (cn j)) x y
  let rf (b:Bool):Expr:=mkApp2 (.const ``Eq.refl [.one]) (cn "Bool") (toExpr b)
  match vL (hd e) "HDiv.hDiv HMod.hMod",(if z then y.int?.map Int.toNat else y.nat?) with
  | true,some (n+1)=>
   if z then
    let k:Expr:=toExpr ((n+1:Nat):Int)
    let m:=one "HMod.hMod" "Int.instModInt"
    let d:=one "HDiv.hDiv" "Int.instDivInt"
    [⟨mkApp2 (cn "Int.mul_ediv_add_emod") x y,true,2,mkIntAdd (mkIntMul k d) m,x⟩,⟨mkApp3 (cn "Om.mnn") x y (rf true),true,0,toExpr (0:Int),m⟩,⟨mkApp3 (cn "Om.mlt") x y (rf true),true,1,m,k⟩]
   else
    let k:=mkNatLit (n+1)
    let m:=one "HMod.hMod" "Nat.instMod"
    let d:=one "HDiv.hDiv" "Nat.instDiv"
    [⟨mkApp2 (cn "Nat.div_add_mod") x y,false,2,mkNatAdd (mkNatMul k d) m,x⟩,⟨mkApp3 (cn "Nat.mod_lt") x y (mkApp3 (cn "Nat.le_of_ble_eq_true") (mkNatLit 1) k (rf true)),false,1,m,k⟩]
  | _,_=>[]
| _=>[]
def Px (e:Expr):List (Bool×Expr×Expr×(Expr->F)×(Expr->F)):=
 let as:=e.getAppArgs
 let y:=as.getD (as.size-1) e
 let x:=as.getD (as.size-2) e
 let z:=hd (as.getD 0 e)=="Int"
 let o:Expr:=toExpr (0:Int)
 let f (s:String) (z:Bool) (l:List Expr) (a b h:Expr):F:=⟨.app (mkAppN (cn s) l.toArray) h,z,2,a,b⟩
 let i (s:String) (b:Expr):Expr->F:=f ("Int." ++s) true [y] (mkApp3 (.const ``Nat.cast [.zero]) (cn "Int") (cn "instNatCastInt") e) b
 let m (s:String) (b:Expr):Expr->F:=f ((if z then "Int." else "Nat.")++s) z [x,y] e b
 match hd e with
| "HSub.hSub" =>if z then [] else [(false,y,x,f "Nat.sub_add_cancel" false [x,y] (mkNatAdd e y) x,f "Nat.sub_eq_zero_of_le" false [x,y] e (mkNatLit 0))]
| "Int.toNat" =>[(true,o,y,i "toNat_of_nonneg" y,f "Int.toNat_of_nonpos" false [y] e (mkNatLit 0))]
| "Int.natAbs" =>[(true,o,y,i "natAbs_of_nonneg" y,i "ofNat_natAbs_of_nonpos" (mkIntNeg y))]
| "Min.min" =>[(z,x,y,m "min_eq_left" x,m "min_eq_right" y)]
| "Max.max" =>[(z,x,y,m "max_eq_right" y,m "max_eq_left" x)]
| _=>[]
def TO:Nat->List F×List O->List Expr->MetaM Expr
| 0,_,_=>Mt.no
| n+1,(fs,os),dn=>do
  let (a,vs):=L9 fs ([],[])
  let new:=(a.1++a.2).filter fun e=>!dn.contains e
  let qs:=new.flatMap PL
  if !qs.isEmpty then TO n (fs++qs,os) (dn++new.filter fun e=>(Px e).isEmpty) else
  let ks:=(fs.zip vs).zipIdx.flatMap fun ((f,_,_,v),i)=>(v,vu i)::if f.q==2 then [(vm (-1) v,vm (-1) (vu i))] else []
  match fm 60 ((aN a.1.length).map (fun i=>(vu (2 * i+1),([]:V)))++ks) with
  | none=>
   let br (p:Expr) (g:Expr->List F) (os:List O) (dn:List Expr):MetaM Expr:=withLocalDeclD `h p fun h=>do
    let (f,o) <-y6 20 h p
    mkLambdaFVars #[h] (<-TO n (fs++f++g h,os++o) dn)
   let el (pf p q x y:Expr):Expr:=mkAppN (cn "Or.elim") #[p,q,cn "False",pf,x,y]
   match new.flatMap (fun e=>(Px e).map fun r=>(e,r)),os with
   | (e,z,x,y,f,g)::_,_=>
    let p <-mkLE x y
    let q <-mkLE y x
    let dn:=e::dn
    return el (mkApp2 (cn (if z then "Int.le_total" else "Nat.le_total")) x y) p q (<-br p (fun h=>[f h]) os dn) (<-br q (fun h=>[g h]) os dn)
   | [],(pf,p,q)::os=>return el pf p q (<-br p (fun _=>[]) os dn) (<-br q (fun _=>[]) os dn)
   | _,_=>Mt.no
  | some cert=>
   let us:=fs.zipIdx.filter fun p=>at_ cert p.2 !=0
   let (a,vs):=L9 (us.map (·.1)) ([],[])
   let c:=(us.zip vs).foldr (fun ((f,i),x,y,_) r=>mkAppN (cn (if f.z then "Om.C.z" else "Om.C.n")) #[mkRawNatLit f.q,toExpr (at_ cert i),x,y,r]) (cn "Om.C.nil")
   return mkAppN (cn "Om.no") (#[lst (cn "Nat") a.1,lst (cn "Int") a.2,c,mkApp2 (.const ``Eq.refl [.one]) (cn "Bool") (cn "Bool.true")]++(us.map fun u=>u.1.pf).toArray)
def MH:List Expr->MetaM (List F×List O)
| []=>return ([],[])
| x::l=>do
  let a <-y6 20 x (<-instantiateMVars (<-inferType x))
  let b <-MH l
  return (a.1++b.1,a.2++b.2)
def Hg (fs:List F×List O):Nat->Expr->MetaM Expr
| 0,_=>Mt.no
| k+1,t=>do
  let t <-whnfR t
  let un (p:Expr):MetaM Expr:=withLocalDeclD `h p fun h=>do
   let a <-y6 20 h p
   mkLambdaFVars #[h] (<-TO 7 (fs.1++a.1,fs.2++a.2) [])
  match OX t with
  | some (q,z,x,y)=>
   if q==2 then return mkAppN (cn (if z then "Int.le_antisymm" else "Nat.le_antisymm")) #[x,y,<-Hg fs k (<-mkLE x y),<-Hg fs k (<-mkLE y x)]
   else return mkApp2 (cn "Classical.byContradiction") t (<-un (mkNot t))
  | none=>match hd t,t.getAppArgs.toList with
   | "False",_=>TO 7 fs []
   | "And",[a,b]=>return mkAppN (cn "And.intro") #[a,b,<-Hg fs k a,<-Hg fs k b]
   | "Not",[a]=>un a
   | "Or",_=>return mkApp2 (cn "Classical.byContradiction") t (<-un (mkNot t))
   | "Ne",[_,a,b]=>un (<-mkEq a b)
   | _,_=>if t.isArrow&&hd t.bindingBody! =="False" then un t.bindingDomain! else Mt.no
def go:TacticM Unit:=withMainContext do
 let g <-getMainGoal
 g.assign (<-Hg (<-MH (<-getLocalHyps).toList) 30 (<-instantiateMVars (<-g.getType)))
 replaceMainGoal []
end Om
namespace Cz
open Lean Meta Mt
theorem i0:Nonempty Prop:=⟨True⟩
theorem fn (A B:Type) (i:Nonempty B):Nonempty (A->B):=i.elim fun b=>⟨fun _=>b⟩
theorem n1:Nonempty PySem.Shared:=⟨{}⟩
theorem n2:Nonempty PySem.Around:=⟨⟨default,default,default,default,default⟩⟩
theorem n5:Nonempty PySem.World:=by refine ⟨⟨default,?_⟩⟩;constructor<;>first | exact default | exact .refcount
theorem n6:Nonempty PySem.Drawn:=by constructor;constructor<;>exact default
theorem n7:Nonempty PySem.GenState:=⟨.fresh default⟩
theorem n8:Nonempty ki:=⟨.value default⟩
theorem n9:Nonempty PySem.Keeper:=⟨.machine⟩
theorem n10:Nonempty m7:=by constructor;constructor<;>exact default
theorem n11:Nonempty PySem.Model:=n5.elim fun w=>⟨by constructor<;>first | exact w | exact default⟩
def HR (v:Environment) (T:Expr):List String->Option Expr
| []=>none
| s::l=>match v.find? (.str (if s.front=='m' then `MP.Lake else `Cz) s) with
  | some c=>if c.type.appArg! ==T then some (.const c.name []) else HR v T l
  | none=>HR v T l
def ne (T:Expr):MetaM (Option Expr):=do
 if T.hasFVar ||T.hasMVar ||T.hasLooseBVars then return none
 match T with
| .app (.app (.const ``Prod _) a) b=>do
  let i <-ne a
  return (<-ne b).bind fun j=>i.map fun i=>mkApp4 (cn "Cz.pr") a b i j
| .forallE _ a b _=>if <-isProp a then return none else return (<-ne b).map fun i=>mkApp3 (cn "Cz.fn") a b i
| .sort .zero=>return some (cn "Cz.i0")
| _=>
  if (<-getLevel T) != .one then return none
  match HR (<-getEnv) T ("n1 mm1 n3 mm2 n2 mm3 n4 n5 n6 n7 n8 n9 n10 n11 mm4 mm5 mm6 mm7".splitOn " ") with
  | some r=>return some r
  | none=>return (<-trySynthInstance (mkApp (.const ``Nonempty [.one]) T)).toOption
def J7:Nat->Expr->MetaM (List (Expr×Expr)×Expr)
| k+1,.lam n t r bi=>do
  match <-ne t with
  | some i=>let (l,e) <-J7 k r;return ((t,i)::l,e)
  | none=>return ([],.lam n t r bi)
| _,e=>return ([],e)
def Iv (ts:List Expr) (b:Expr):Expr:=ts.foldr (fun t b=> .lam `x t b .default) b
def body:List Expr->Expr->Option Expr
| [],e=>some e
| t::l,.forallE _ t' b _=>if t==t' then body l b else none
| _,_=>none
def xb (c:Expr):Nat->List Expr
| 0=>[c]
| k+1=> .proj ``Prod 0 c::xb (.proj ``Prod 1 c) k
def call (s:String) (ts:List (Expr×Expr)) (P:Expr):Expr:= .app (ts.foldl (fun f p=> .app (.app f p.1) p.2) (cn ("Cz." ++s++toString ts.length))) P
def J6 (e:Expr) (x:Option Expr):MetaM (Option Expr):=do
 let (ts,r) <-J7 12 e
 if ts.isEmpty then return none
 let us:=ts.map (·.1)
 let P <-(match x.bind (body us) with
  | some b=>return Iv us b
  | none=>do let t <-inferType e;return Iv us ((body us t).getD t))
 return some (.app (call "all" ts P) (r.instantiateRev (xb (call "e" ts P) (ts.length-1)).toArray))
def KI (A k v:Expr) (rest:Array Expr):Expr:=mkAppN (.app (.lam `h A k .default) v) rest
def cut:Nat->Expr->MetaM Expr
| 0,.forallE _ _ b _=>if b.hasLooseBVar 0 then no else return b.lowerLooseBVars 1 1
| j+1,.forallE n t b bi=>return .forallE n t (<-cut j b) bi
| _,_=>no
def Ni (t p:Expr):List (Expr×Expr):=match t with
| .app (.app f a) b=>if hd f=="And" then (a,.proj ``And 0 p)::Ni b (.proj ``And 1 p) else [(t,p)]
| _=>[(t,p)]
def Pr (s:Bool) (q:Expr×Expr) (h:Bool):MetaM Expr:=do
 let .app (.app (.app (.const _ us) T) a) b:=q.1 | no
 let f (n:Name) (x y p:Expr):Expr:=mkApp4 (.const n us) T x y p
 let (x,y,p):=if s then (b,a,f ``Eq.symm a b q.2) else (a,b,q.2)
 return if h then f ``heq_of_eq x y p else p
def Pw:Expr->List Bool
| .forallE _ t b _=>(hd t=="HEq")::Pw b
| _=>[]
def Bk (s:String) (e:Expr):Option Expr:=if hd e==s&&e.getAppNumArgs==4 then some e.appArg! else none
def Np (e:Expr):Option Expr:=(Bk "eq_of_heq" e).bind (Bk "heq_of_eq")
def Ph (e:Expr):Option Expr:=
 match Bk "Eq.symm" e with
| some p=>
  let c:=Np p
  (Bk "Eq.symm" (c.getD p)).orElse fun _=>c.map fun p=> .app e.appFn! p
| none=>Np e
def Ak:Nat->Nat->Expr->MetaM Expr
| 0,_,_=>no
| k+1,m,e=>
  if e.isMData then Ak k m e.consumeMData else
  if e.isLambda then let b:=e.bindingBody!
   if m !=0 then return .lam e.bindingName! e.bindingDomain! (<-Ak k (m-1) b) .default else if b.hasLooseBVar 0 then no else return b.lowerLooseBVars 1 1
  else if m !=0 then no else do
  let f:=e.getAppFn
  let as:=e.getAppArgs
  match hd e with
  | "Eq.ndrec" =>
   let .lam x t b bi:=as[2]! | no
   let j:=as.size-6
   return mkAppN f ((as.set! 2 (.lam x t (<-cut j b) bi)).set! 3 (<-Ak k j as[3]!))
  | "False.elim" =>return mkApp2 f (<-cut 0 as[0]!) as[1]!
  | _=>
   let .const (.str c _) us:=f | no
   let .ctorInfo i <-getConstInfo c | no
   let np:=i.numParams
   let nf:=i.numFields
   if as.size !=np+2 * nf+3 then no
   let ci <-getConstInfo (c.str "inj")
   let h:=as[as.size-2]!
   let q:=Bk "Eq.symm" h
   let x:=as.extract (np+1) (np+1+nf)
   let y:=as.extract (np+1+nf) (np+1+2 * nf)
   let bs:=(as.extract 0 np++(if q.isSome then y++x else x++y)).push (q.getD h)
   let qs:=Ni (<-instantiateForall (ci.type.instantiateLevelParams ci.levelParams us.tail!) bs) (mkAppN (.const ci.name us.tail!) bs)
   if qs.length !=nf then no
   let .forallE _ d _ _ <-inferType (mkAppN f as.pop) | no
   Ak k 0 ((as.back!.beta (<-(qs.zip (Pw d)).mapM fun p=>Pr q.isSome p.1 p.2).toArray).replace Ph)
def drop:List Expr->Expr->Expr->List Expr×Expr×Expr
| p::ps,.forallE n t r bi,.lam n' t' r' bi'=>
  if !r.hasLooseBVar 0&&!r'.hasLooseBVar 0 then drop ps (r.lowerLooseBVars 1 1) (r'.lowerLooseBVars 1 1)
  else
   let (ps,r,r'):=drop ps r r'
   (p::ps,.forallE n t r bi,.lam n' t' r' bi')
| ps,m,k=>(ps,m,k)
def MM:Nat->Expr->List Expr×Expr
| k+1,e=>if hd e=="Exists" &&e.getAppNumArgs==2&&e.appArg!.isLambda&&e.getAppFn.constLevels! ==[.succ .zero]&&!(e.getArg! 0).hasLooseBVars then
   let (ts,r):=MM k e.appArg!.bindingBody!
   (e.getArg! 0::ts,r) else ([],e)
| _,e=>([],e)
def Gj:Nat->Expr->List Expr×Expr
| n+1,e=>match Bk "Exists.intro" e.consumeMData with
  | some p=>
   let (ws,h):=Gj n p
   (e.consumeMData.appFn!.appArg!::ws,h)
  | none=>([],e)
| 0,e=>([],e)
def J4:Nat->Expr->Nat×Expr
| n+1,e=>
  let p:=if n !=0&&e.isLambda&&e.bindingBody!.isLambda then e.bindingBody!.bindingBody!.consumeMData else .bvar 0
  if hd p=="Exists.casesOn" &&p.getAppNumArgs==5&&p.appFn!.appArg! == .bvar 0&&!p.appArg!.hasLooseBVar 0 then
   let (k,r):=J4 n (p.appArg!.lowerLooseBVars 1 1).consumeMData
   (k+1,.lam e.bindingName! e.bindingDomain! r .default) else (1,e)
| _,e=>(1,e)
def OV (x:MetaM Expr):MetaM (Option Expr):=do try return some (<-x) catch _=>return none
def same (a b:Expr):MetaM Bool:=tryCatchRuntimeEx (Core.withCurrHeartbeats (withTheReader Core.Context (fun c=>{c with maxHeartbeats:=500000}) (withNewMCtxDepth (isDefEq a b)))) fun _=>return false
def FH (us:List Level) (T a m x b h:Expr) (r:Array Expr):Expr:=
 mkAppN (match Bk "Eq.symm" h with
| some p=>mkAppN (.const `Cz.rwg us) #[T,m,b,a,p,x]
| none=>mkAppN (.const ``Eq.ndrec (.zero::us)) #[T,a,m,x,b,h]) r
def O3 (P p c:Expr):Option Expr:=
 let as:=p.getAppArgs
 let f:=P.getAppArgs
 let u:=P.getAppFn.constLevels!
 let l (h:Expr) (n:Nat):Option Expr:=if hd h=="congrArg" &&hd (h.getArg! 4)=="Eq" &&(h.getArg! 4).getAppNumArgs==n then some h.appArg! else none
 let s (k:Expr):Expr:=mkApp4 (.const ``Eq.symm u) f[0]! f[2]! c k
 if f.size !=3 then none else
 match hd p with
| "congrFun'" =>l as[4]! 1
| "congr" =>(l as[6]! 1).map fun h=>mkAppN (.const ``Eq.trans u) #[f[0]!,f[1]!,c,f[2]!,h,s as[7]!]
| _=>(l p 2).map s
def N9:Nat->Expr->Option Expr
| k+1,e=>if e.isBinding then N9 k e.bindingBody! else none
| _,e=>some e
def Pj (e f:Expr) (as:Array Expr):MetaM (Option Expr):=do
 let n:=as.size
 let a (i:Nat):Expr:=as[i]!
 let rest (i:Nat):Array Expr:=as.extract i n
 match f with
| .lam _ t b _=>if <-isProp t then return none else return some ((b.instantiate1 (a 0)).beta (rest 1))
| .const c us=>
  match hd f with
  | "id" =>return if n>=2 then some ((a 1).beta (rest 2)) else none
  | "And.casesOn" =>
   if n<5 then return none
   return some (KI (mkApp2 (cn "And") (a 0) (a 1)) ((a 4).beta #[.proj ``And 0 (.bvar 0),.proj ``And 1 (.bvar 0)]) (a 3) (rest 5))
  | "Eq.mpr" =>
   if n !=4 then return none
   let p:=if hd (a 2)=="id" then (a 2).appArg! else a 2
   let c:=p.getAppArgs
   if hd p=="congrArg" &&c.size==6 then return some (mkAppN (.const `Cz.rwg [p.getAppFn.constLevels!.head!]) #[c[0]!,c[4]!,c[2]!,c[3]!,c[5]!,a 3])
   else return none
  | "Exists.intro" =>
   let E:=mkApp2 (.const ``Exists us) (a 0) (a 1)
   let (ws,h):=Gj (min 8 (MM 8 E).1.length) e
   let k:=ws.length
   if k<2 then return none
   let (ts,q):=MM k E
   return some (mkAppN (cn s!"Cz.in{k}") ((ts++Iv ts q::ws).toArray.push h))
  | "Eq.casesOn" =>
   if n !=8 ||!(a 5).isLambda then return none
   match N9 4 (a 2) with
   | some g=>
    if (aN 4).any g.hasLooseBVar then return none
    OV (Ak 60 0 ((a 5).bindingBody!.instantiate1 (mkApp4 (.const ``Eq.symm us.tail!) (a 0) (a 1) (a 3) (a 4))))
   | none=>return none
  | "Exists.casesOn" =>
   if n<5 then return none
   let E:=mkApp2 (.const ``Exists us) (a 0) (a 1)
   let (k,r):=J4 (MM 7 E).1.length (a 4)
   let (ts,q):=MM k E
   let is <-ts.mapM ne
   if ts.isEmpty ||is.any Option.isNone then return none
   let us:=ts.zip (is.map Option.get!)
   let P:=if k==1 then a 1 else Iv ts q
   let xs:=(xb (call "w" us P) (k-1)).toArray
   return some (KI (mkAppN P xs).headBeta (r.beta (xs.push (.bvar 0))) (.app (call "ex" us P) (a 3)) (rest 5))
  | _=>
   match Match.Extension.getMatcherInfo? (<-getEnv) c with
   | some i=>if i.numAlts==1&&n>=i.arity then return some ((<-instantiateValueLevelParams (<-getConstInfo c) us).beta as) else return none
   | none=>return none
| _=>return none
def pre (e:Expr):MetaM (Option Expr):=do
 match e with
| .mdata _ b=>return some b
| .letE n t v b _=>if <-isProp t then return some (.app (.lam n t b .default) v) else return some (b.instantiate1 v)
| .lam _ t _ _=>if <-isProp t then return none else J6 e none
| .app .. =>Pj e e.getAppFn e.getAppArgs
| _=>return none
def ND (ft:Expr):List Expr->MetaM (List Expr)
| []=>return []
| x::l=>do
  match ft with
  | .forallE _ t b _=>
   let y <-(do
    if !x.isLambda then return x
    if <-isProp x.bindingDomain! then return x
    if <-isProof x then return (<-J6 x (some t)).getD x
    return x)
   return y::(<-ND (b.instantiate1 x) l)
  | _=>return x::l
def step (e:Expr):MetaM TransformStep:=do
 if e.isFVar ||e.isConst ||e.isSort ||e.isLit ||e.isBVar then return .done e
 if !(<-isProof e) then return .done e
 if vL (hd e) "congrArg congr congrFun congrFun' Eq.trans Eq.symm" then
  match (<-inferType e).eq? with
  | some (T,a,b)=>if <-same a b then return .done (mkApp2 (.const ``Eq.refl [<-getLevel T]) T a)
  | none=>pure ()
 match <-pre e with
| some r=>return .visit r
| none=>match e with
  | .lam n t b bi=>return .continue (some (.lam n t (if b.isLambda then .mdata {} b else b) bi))
  | .app .. =>
   let f:=e.getAppFn
   if f.isConst then return .continue (some (mkAppN f (<-ND (<-inferType f) e.getAppArgs.toList).toArray)) else return .continue
  | _=>return .continue
def Os:Nat->Expr->Nat
| k+1,e=>if !e.hasLooseBVars&&!e.hasFVar then 0 else match e with
  | .app f a=>Os k f+Os k a+1
  | .proj _ _ b=>Os k b+1
  | .bvar _ | .fvar _=>0
  | _=>100
| _,_=>100
def post (e:Expr):MetaM TransformStep:=do
 match e with
| .app (.lam _ t b bi) v=>return .done (if !b.hasLooseBVar 0 then b else if Os 12 v<=4 then b.instantiate1 v else .app (.lam `h t b bi) v)
| .app .. =>
  let as:=e.getAppArgs
  let n:=as.size
  let a (i:Nat):Expr:=as[i]!
  let us:=match e.getAppFn with | .const _ us=>us | _=>[]
  let r:MetaM Expr:=do
   match hd e with
   | "Eq.ndrec" =>
    let .lam x t m bi:=a 2 | return e
    let (ps,m,k):=drop (as.extract 6 n).toList m (a 3)
    return FH us.tail! (a 0) (a 1) (.lam x t m bi) k (a 4) (a 5) ps.toArray
   | "Eq.mp" =>
    if <-same (a 0) (a 1) then return mkAppN (a 3) (as.extract 4 n)
    let c:=(a 2).getAppArgs
    return if hd (a 2)=="congrArg" &&c.size==6 then FH [(a 2).getAppFn.constLevels!.head!] c[0]! c[2]! c[4]! (a 3) c[3]! c[5]! (as.extract 4 n) else e
   | "Cz.rwg" =>
    if <-same (a 2) (a 3) then return mkAppN (a 5) (as.extract 6 n)
    return match Bk "Eq.symm" (a 4) with
    | some p=>FH us (a 0) (a 3) (a 1) (a 5) (a 2) p (as.extract 6 n)
    | none=>e
   | "Eq.trans" =>return if hd (a 4)=="Eq.refl" then a 5 else if hd (a 5)=="Eq.refl" then a 4 else e
   | "of_eq_true" =>
    let c:=(a 1).getAppArgs
    return if hd (a 1)=="Eq.trans" &&c.size==6&&hd c[5]! =="eq_self" &&hd (a 0)=="Eq" then (O3 (a 0) c[4]! c[5]!.appArg!).getD e else e
   | _=>return e
  return .done (<-(if e.getAppFn.isConst&&n > 1 then r else return e))
| _=>return .done e
def run (v:Expr):MetaM Expr:=Meta.transform v step post
def size (e:Expr):MetaM Nat:=(ShareCommon.shareCommon' e).numObjs
def b (n:Nat):Elab.Tactic.TacticM Unit:=Elab.Tactic.withMainContext do
 let g <-Elab.Tactic.getMainGoal
 let m <-mkFreshExprMVar (<-g.getType) .syntheticOpaque `cz1
 g.setUserName `cz0
 let r <-mkFreshExprMVar (<-g.getType) .syntheticOpaque
 m.mvarId!.assign r
 let (_,m') <-r.mvarId!.introNP n
 Elab.Tactic.setGoals [m']
def e:Elab.Tactic.TacticM Unit:=do
 let c <-getMCtx
 let g:=(c.findUserName? `cz0).get!
 g.withContext do
  let xs <-getLocalHyps
  let w <-mkLambdaFVars xs (<-instantiateMVars (.mvar (c.findUserName? `cz1).get!))
  let w' <-run w
  g.assign (mkAppN (if (<-size w')<(<-size w) then w' else w) xs)
  Elab.Tactic.setGoals []
end Cz
local macro_rules | `(tactic| rfl') => `(tactic| kernel_rfl)
local macro_rules | `(tactic| iterate $n:num $t:tacticSeq) => `(tactic| ((run_tac Cz.b $n); ($t); (run_tac Cz.e)))
local macro_rules | `(tactic| omega) => `(tactic| first | run_tac Om.go | lia | run_tac Lean.Elab.Tactic.Omega.omegaTactic {})
set_option backward.match.sparseCases false
namespace MP.Lake
open PySem
set_option genCtorIdx true in
inductive D where
| none
| bool (b:Bool)
| int (i:Int)
| str (s:List Nat)
| tup (xs:List D)
| lst (xs:List D)
| QC (Qx:List (Int×Int))
| rng (a b:Int)
| loc (i:Nat)
| tab
| Sk
| raw (a:Nat)
 deriving Inhabited
noncomputable def oH:D->Option Int
| .int i=>some i
| _=>aa
noncomputable def qq (d:D):Option Nat:=(oH d).bind fun i=>if 0<=i then some i.toNat else aa
noncomputable def sM:D->Option Bool
| .bool b=>some b
| _=>aa
noncomputable def xV:D->Option Nat
| .loc i=>some i
| _=>aa
noncomputable def sG:D->Option (List Nat)
| .str s=>some s
| _=>aa
noncomputable def tj:D->Option (List D)
| .lst s=>some s
| _=>aa
noncomputable def Dq:D->Option (List D)
| .tup s=>some s
| _=>aa
noncomputable def Fj:D->Option (List (Int×Int))
| .QC s=>some s
| _=>aa
noncomputable def isNone:D->Option Unit
| .none=>some ()
| _=>aa
noncomputable def sy {α:Type}:List α->Option Unit
| []=>some ()
| _::_=>aa
noncomputable def u0 {α:Type}:List α->Option (α×List α)
| []=>aa
| a::r=>some (a,r)
noncomputable def uv {α:Type} (l:List α):Option α:=(u0 l).bind fun q=>(sy q.2).bind fun _=>some q.1
noncomputable def Ce {α:Type} (l:List α):Option (α×α):=(u0 l).bind fun q=>(uv q.2).bind fun b=>some (q.1,b)
noncomputable def wP (f:D->D->Option Bool):List D->List D->Option Bool
| [],bs=>(sy bs).bind fun _=>some true
| a::as,bs=>(u0 bs).bind fun q=>(f a q.1).bind fun x=>(wP f as q.2).bind fun y=>some (x&&y)
noncomputable def t5 (a b:List (Int×Int)):Bool:=a.length==b.length&&a.all fun p=>b.lookup p.1==some p.2
noncomputable def rj:Nat->D->D->Option Bool
| 0,_,_=>aa
| k+1,a,b=>match a with
  | .none=>(isNone b).bind fun _=>some true
  | .bool a=>(sM b).bind fun b=>some (a==b)
  | .int a=>(oH b).bind fun b=>some (a==b)
  | .str a=>(sG b).bind fun b=>some (a==b)
  | .tup a=>(Dq b).bind fun b=>if a.length=b.length then wP (rj k) a b else aa
  | .lst a=>(tj b).bind fun b=>if a.length=b.length then wP (rj k) a b else some false
  | _=>aa
set_option genCtorIdx true in
inductive MO where
| lex (line:Int) (src:Option Nat) (pb:List D)
| sg (cs:List Nat)
| Qu (rows:List (List D))
 deriving Inhabited
set_option genCtorIdx true in
inductive OW where
| lst (xs:List D)
| QC (Qx:List (Int×Int))
 deriving Inhabited
noncomputable abbrev G:=List MO
noncomputable def put (k v:Int):List (Int×Int)->List (Int×Int)
| []=>[(k,v)]
| p::r=>if p.1=k then (k,v)::r else p::put k v r
noncomputable def pQ:Nat->List Nat->List D
| _,[]=>[]
| p,[c]=>[.tup [.int p,.str [c]]]
| p,c::d::r=>if c=92 then .tup [.int (p+1:Nat),.str [92,d]]::pQ (p+2) r else .tup [.int p,.str [c]]::pQ (p+1) (d::r)
noncomputable def units (s:List Nat):List D:=pQ 0 s
noncomputable def pB:Nat->Nat->Nat->List Int -- least first
| 0,_,_=>[]
| k+1,b,a=>((a % b:Nat):Int)::pB k b (a / b)
noncomputable def dL (a:Nat):Nat:=if a=0 then 0 else nA a+1
noncomputable def na:List Int->Int->Int
| [],_=>0
| d::r,b=>d+b * na r b
noncomputable def qG (c:Nat):Bool:=c==10 ||c==9 ||c==13 ||c==32
noncomputable def tz:List Nat->List Nat->Int->List Nat×List Nat×Int
| [],acc,ln=>(acc,[],ln)
| c::r,acc,ln=>
  let ln':=if c=10 then ln+1 else ln
  if c=34 then (acc,r,ln')
  else if c=92 then match r with
   | []=>(acc,[],ln')
   | d::r'=>tz r' (acc++[d]) (if d=10 then ln'+1 else ln')
  else tz r (acc++[c]) ln'
noncomputable def sD:List Nat->List Nat->Int->List Nat×List Nat×Int
| [],acc,ln=>(acc,[],ln)
| c::r,acc,ln=>
  let ln':=if c=10 then ln+1 else ln
  if qG c then (acc,r,ln')
  else if c=92 then match r with
   | []=>(acc,[],ln')
   | d::r'=>sD r' (acc++[d]) (if d=10 then ln'+1 else ln')
  else sD r (acc++[c]) ln'
noncomputable def tok:List Nat->Int->List Nat×List Nat×Int
| [],ln=>([],[],ln)
| c::r,ln=>
  let ln':=if c=10 then ln+1 else ln
  if qG c then tok r ln'
  else if c=34 then tz r [] ln'
  else if c=92 then match r with
   | []=>([],[],ln')
   | d::r'=>sD r' [d] (if d=10 then ln'+1 else ln')
  else sD r [c] ln'
noncomputable def pI (n:Nat) (i:Int):Nat:=if i<0 then (i+n).toNat else min i.toNat n
noncomputable def oP (n:Nat):Option Int->Nat
| some i=>pI n i
| none=>0
noncomputable def oW (n:Nat):Option Int->Nat
| some i=>pI n i
| none=>n
noncomputable def slice {α:Type} (xs:List α) (lo hi:Option Int):List α:=(xs.take (oW xs.length hi)).drop (oP xs.length lo)
noncomputable def ya (sep:List Nat):List D->Option (List Nat)
| []=>some []
| d::r=>(sG d).bind fun x=>match r with
  | []=>some x
  | _::_=>(ya sep r).bind fun y=>some (x++sep++y)
noncomputable def lim:Nat:=1048576
noncomputable def lw (a:Int):Bool:=decide (a.natAbs<18446744073709551616)
noncomputable def EZ (s:List Nat):Option D:=if s.length<=lim then some (.str s) else aa
noncomputable def Ei (s:List D):Option D:=if s.length<=lim then some (.lst s) else aa
noncomputable def BI (s:List Nat):Option D:=
 if (fK ⟨s.toArray⟩ (s.length+1)==[(0,s.length)])=true then aa
 else if (mR ⟨s.toArray⟩).all fun x=>decide (x.length<=lim) then Ei ((mR ⟨s.toArray⟩).map fun x=> .str x.cps.toList)
 else aa
noncomputable def sU (c:Nat) (s:List Nat):Int:=(s.filter (· ==c)).length
noncomputable def sQ:List D->Option (List Int)
| []=>some []
| d::r=>(oH d).bind fun i=>(sQ r).bind fun l=>some (i::l)
noncomputable def zK (f:Int->Int->Option D) (a b:D):Option D:=(oH a).bind fun i=>(oH b).bind fun j=>f i j
noncomputable def Oq (a b:D):Option D:=match a with
| .int i=>(oH b).bind fun j=>some (.int (i+j))
| .str s=>(sG b).bind fun t=>EZ (s++t)
| .lst x=>(tj b).bind fun y=>Ei (x++y)
| _=>aa
noncomputable def binop (op:iE) (a b:D):Option D:=match op with
| .Add=>Oq a b
| .Sub=>zK (fun a b=>some (.int (a-b))) a b
| .Mult=>zK (fun a b=>if lw b ||lw a then some (.int (a * b)) else aa) a b
| .FloorDiv=>zK (fun a b=>if b≠0/\lw b then some (.int (aL a b)) else aa) a b
| .Mod=>zK (fun a b=>if b≠0 then some (.int (aQ a b)) else aa) a b
| .Pow=>zK (fun a b=>if 0<=b/\b<=1000000/\lw a then some (.int (a ^ b.toNat)) else aa) a b
| .LShift=>zK (fun a b=>if 0<=b/\b<=1000000/\lw a then some (.int (a * 2 ^ b.toNat)) else aa) a b
| .RShift=>zK (fun a b=>if 0<=b then some (.int (aL a (2 ^ b.toNat))) else aa) a b
| .BitAnd=>zK (fun a b=>if 0<=a/\b=1 then some (.int (aQ a 2)) else aa) a b
| _=>aa
noncomputable def Hf:Expr->List (List Nat×Expr)
| .Dict ks vs _=>(ks.zip vs).filterMap fun (k,v)=>match k with | some (.Constant (.str s) _ _)=>some (s.cps.toList,v) | _=>aa
| _=>[]
noncomputable def qE:Expr->Option Str
| .Name x _=>some x
| _=>aa
noncomputable def Kj:Stmt->Option (List Expr×Expr)
| .Assign ts v _=>some (ts,v)
| _=>aa
noncomputable def NX (st:Stmt):Option (Str×Expr):=(Kj st).bind fun q=>(uv q.1).bind fun t=>(qE t).bind fun y=>some (y,q.2)
noncomputable def wf (p:bY) (x:Str):Option Expr:=p.main.body.findSome? fun st=>(NX st).bind fun q=>if q.1==x then some q.2 else aa
noncomputable def ua (p:bY) (x:Str):Option Int:=match wf p x with
| some (.Constant (.int i) _ _)=>some i
| _=>aa
noncomputable def qm (p:bY):List (List Nat×Int):=match wf p "EXACT_TOKEN_TYPES" with
| some e=>(Hf e).filterMap fun (s,v)=>match v with | .Name n _=>(ua p n).map (s,·) | _=>aa
| aa=>[]
noncomputable def ON (a b:D):Option Bool:=match a with
| .QC x=>(Fj b).bind fun y=>some (t5 x y)
| _=>rj 6 a b
noncomputable def PJ (a b:D):Option Bool:=match a with
| .none=>(isNone b).bind fun _=>some true
| .int _=>(isNone b).bind fun _=>some false
| .bool a=>(sM b).bind fun b=>some (a==b)
| _=>aa
noncomputable def OF (a b:D):Option Bool:=(sG a).bind fun s=>(uv s).bind fun c=>(sG b).bind fun b=>some (decide (c∈b))
noncomputable def P8 (p:bY) (a b:D):Option Bool:=match b with
| .tab=>(sG a).bind fun s=>some ((qm p).lookup s).isSome
| _=>OF a b
noncomputable def cmp (p:bY) (op:CmpOp) (a b:D):Option Bool:=match op with
| .Eq=>ON a b
| .NotEq=>(ON a b).bind fun x=>some (!x)
| .Lt=>(oH a).bind fun i=>(oH b).bind fun j=>some (decide (i<j))
| .LtE=>(oH a).bind fun i=>(oH b).bind fun j=>some (decide (i<=j))
| .GtE=>(oH a).bind fun i=>(oH b).bind fun j=>some (decide (j<=i))
| .Is=>PJ a b
| .IsNot=>(sM a).bind fun a=>(sM b).bind fun b=>some (!(a==b))
| .In=>P8 p a b
| .NotIn=>(OF a b).bind fun x=>some (!x)
| _=>aa
set_option genInjectivity false in
structure Fn where
 params:List Str
 scope:aX
 body:List Stmt
noncomputable def wm (b:List Stmt) (x:Str):Option Fn:=b.findSome? fun
| .FunctionDef y a b _ _ _ sc _ _ _=>if y==x then some ⟨a.args.map (·.arg),sc,b⟩ else aa
| _=>aa
noncomputable def pu (p:bY) (c:Str):List Stmt:=(p.main.body.findSome? fun
| .ClassDef y _ _ b _ _ _ _ _ _ _=>if y==c then some b else aa
| _=>aa).getD []
noncomputable def o8 (p:bY) (x:Str):Option Fn:=wm p.main.body x
noncomputable def OJ :Expr->Option (dD×Expr×aX×Pos)
| .Lambda a b sc pos=>some (a,b,sc,pos)
| _=>aa
noncomputable def Kc (b:List Stmt):Option (dD×Expr×aX×Pos):=b.findSome? fun s=>(Kj s).bind fun q=>OJ q.2
noncomputable def vY (env:Env):Expr->Option (aX×Pos×Sem ag×Sem ag)
| .ListComp _ gens Qh pos=>some (Qh,firstIterPos gens pos,newList [],firstIter gens env)
| .DictComp _ _ gens Qh pos=>some (Qh,firstIterPos gens pos,newDict,firstIter gens env)
| _=>aa
noncomputable abbrev Qm:=List (Str×D)
structure St where
 ρ:Qm
 up:Qm
 own:Option (Str×OW)
noncomputable def St.withRho (st:St) (ρ:Qm):St:=⟨ρ,st.up,st.own⟩
noncomputable def varD (sc:aX) (st:St) (x:Str):Option D:=match sc.names.lookup x with
| some .free=>st.up.lookup x
| some .local=>st.ρ.lookup x
| some .cell=>st.ρ.lookup x
| _=>aa
noncomputable def St.comp (sc Qh:aX) (st:St):St:=⟨[],Qh.names.filterMap fun p=>if p.2== .free then (varD sc st p.1).map (p.1,·) else aa,aa⟩
noncomputable def St.freeze (st:St):St:=match st.own with
| some (x,.lst xs)=>⟨(x,.lst xs)::st.ρ,st.up,aa⟩
| some (x,.QC Qx)=>⟨(x,.QC Qx)::st.ρ,st.up,aa⟩
| aa=>st
noncomputable def zb:List Expr->List D->Qm->Option Qm
| [],ds,ρ=>(sy ds).bind fun _=>some ρ
| t::ts,ds,ρ=>(qE t).bind fun x=>(u0 ds).bind fun q=>zb ts q.2 ((x,q.1)::ρ)
noncomputable def Ks:D->Option (List D)
| .tup ds=>some ds
| .lst ds=>some ds
| _=>aa
noncomputable def bv (t:Expr) (d:D) (ρ:Qm):Option Qm:=match t with
| .Name x _=>some ((x,d)::ρ)
| .Tuple ts _ _=>(Ks d).bind fun ds=>zb ts ds ρ
| _=>aa
set_option genCtorIdx true in
inductive Fl where
| next | ret (d:D)
 deriving Inhabited
noncomputable def vy:Nat->Int->List D
| 0,_=>[]
| n+1,a=> .int a::vy n (a+1)
noncomputable def yH (a b:Int):Bool:=decide (-4611686018427387904<=a/\a<4611686018427387904/\ -4611686018427387904<=b/\b<4611686018427387904/\(b-a).toNat<=lim)
noncomputable def itemsOf:D->Option (List D)
| .lst xs=>some xs
| .tup xs=>some xs
| .QC Qx=>some (Qx.map fun p=> .int p.1)
| .rng a b=>if yH a b then some (vy (b-a).toNat a) else aa
| .str s=>some (s.map fun c=> .str [c])
| _=>aa
noncomputable def K5:Const->Option D
| .none=>some .none
| .bool b=>some (.bool b)
| .int i=>some (.int i)
| .str s=>EZ s.cps.toList
| _=>aa
noncomputable def nameD (p:bY) (sc:aX) (st:St) (x:Str):Option D:=match sc.names.lookup x with
| some .globalImplicit=>if x==("EXACT_TOKEN_TYPES" :Str) then some .tab else if x==("int" :Str) then some .Sk else (ua p x).map .int
| some .free=>st.up.lookup x
| some .local=>st.ρ.lookup x
| some .cell=>st.ρ.lookup x
| _=>aa
noncomputable def pZ (sc:aX) (x:Str):Bool:=match sc.names.lookup x with
| some .globalImplicit=>true
| _=>false
noncomputable def subD (p:bY) (a i:D):Option D:=match a with
| .lst xs=>(qq i).bind fun k=>xs[k]?
| .tup xs=>(qq i).bind fun k=>xs[k]?
| .str xs=>(qq i).bind fun k=>xs[k]?.bind fun c=>some (.str [c])
| .QC Qx=>(oH i).bind fun k=>(Qx.lookup k).bind fun v=>some (.int v)
| .tab=>(sG i).bind fun s=>((qm p).lookup s).bind fun v=>some (.int v)
| _=>aa
noncomputable def yF:MO->Option (Int×Option Nat×List D)
| .lex ln src pb=>some (ln,src,pb)
| _=>aa
noncomputable def Bf:MO->Option (List Nat)
| .sg cs=>some cs
| _=>aa
noncomputable def sR:MO->Option (List (List D))
| .Qu rows=>some rows
| _=>aa
noncomputable def xc (g:G) (a:D) (lo hi:Option Int):Option D:=match a with
| .lst xs=>some (.lst (slice xs lo hi))
| .str xs=>some (.str (slice xs lo hi))
| .loc j=>g[j]?.bind fun o=>(Bf o).bind fun cs=>some (.lst (slice (cs.map fun c=> .str [c]) lo hi))
| _=>aa
noncomputable def Of (g:G) (i:Nat) (ln:Int) (j:Nat):Option (D×G):=g[j]?.bind fun o=>(Bf o).bind fun cs=>some (.str (tok cs ln).1,(g.set j (.sg (tok cs ln).2.1)).set i (.lex (tok cs ln).2.2 (some j) []))
noncomputable def wU (g:G) (i:Nat):Option (D×G):=g[i]?.bind fun o=>(yF o).bind fun q=>match q.2.2 with
| t::r=>some (t,g.set i (.lex q.1 q.2.1 r))
| []=>q.2.1.bind fun j=>Of g i q.1 j
noncomputable def wv (g:G) (i:Nat):Option (D×G):=g[i]?.bind fun o=>(yF o).bind fun q=>q.2.1.bind fun j=>g[j]?.bind fun o=>(Bf o).bind fun cs=>match cs with
| []=>some (.str [],g)
| c::r=>some (.str [c],if c=10 then (g.set j (.sg r)).set i (.lex (q.1+1) (some j) q.2.2) else g.set j (.sg r))
noncomputable def Mm (g:G) (j:Nat):Option (D×G):=g[j]?.bind fun o=>(Bf o).bind fun cs=>(u0 cs).bind fun q=>some (.str [q.1],g.set j (.sg q.2))
noncomputable def vI (m:Str) (g:G) (i:Nat):Option (D×G):=if m==("get_token" :Str) then wU g i else if m==("_read_char" :Str) then wv g i else aa
noncomputable def kindOf:MO->Nat
| .lex _ _ _=>1
| .sg _=>2
| .Qu _=>3
noncomputable def qe (g:G):D->Option Nat
| .loc i=>g[i]?.map kindOf
| _=>some 0
noncomputable def Ky (d:D) (g:G) (i:Nat):Option (D×G):=g[i]?.bind fun o=>(yF o).bind fun q=>if q.2.2.length<lim then some (.none,g.set i (.lex q.1 q.2.1 (q.2.2++[d]))) else aa
noncomputable def Io (m:Str) (i:Nat) (ds:List D) (g:G):Option (D×G):=match ds with
| []=>vI m g i
| d::r=>(sy r).bind fun _=>if m==("push_token" :Str) then Ky d g i else if m==("pop" :Str) then (oH d).bind fun k=>if k=0 then Mm g i else aa else aa
noncomputable def zy (m:Str) (s:List Nat) (ds:List D) (g:G):Option (D×G):=
 if m==("join" :Str) then (uv ds).bind fun d=>(tj d).bind fun xs=>(ya s xs).bind fun r=>(EZ r).bind fun d=>some (d,g)
 else if m==("split" :Str) then (sy ds).bind fun _=>(BI s).bind fun d=>some (d,g)
 else if m==("count" :Str) then (uv ds).bind fun d=>(sG d).bind fun t=>(uv t).bind fun c=>some (.int (sU c s),g)
 else aa
noncomputable def methD (m:Str) (a:D) (ds:List D) (g:G):Option (D×G):=match a with
| .str s=>zy m s ds g
| .lst xs=>if m==("count" :Str) then (uv ds).bind fun d=>(oH d).bind fun i=>(sQ xs).bind fun l=>some (.int ((l.filter (· ==i)).length),g) else aa
| .QC Qx=>if m==("get" :Str) then (Ce ds).bind fun q=>(oH q.1).bind fun k=>(oH q.2).bind fun d=>some (.int ((Qx.lookup k).getD d),g) else aa
| .int i=>if m==("bit_length" :Str) then (sy ds).bind fun _=>some (.int (dL i.natAbs),g) else aa
| .loc i=>Io m i ds g
| _=>aa
noncomputable def Ki (m:Str):Nat:=if m==("get_token" :Str) then 40 else if m==("_read_char" :Str) then 15 else if m==("push_token" :Str) then 10 else 0
noncomputable def qL (ds:List D) (g:G):Option (D×G):=(Ce ds).bind fun q=>(oH q.1).bind fun a=>(oH q.2).bind fun m=>if 0<=a/\a<2 ^ 60/\1<=m/\m<=60 then some (.lst ((pB ((dL a.toNat+m.toNat-1) / m.toNat) (2 ^ m.toNat) a.toNat).map .int),g) else aa
noncomputable def qM (ds:List D) (g:G):Option (D×G):=(Ce ds).bind fun q=>(tj q.1).bind fun xs=>(oH q.2).bind fun m=>(sQ xs).bind fun l=>if 1<=m/\l.length * m.toNat<=60/\l.all (fun d=>decide (0<=d/\d<2 ^ m.toNat))=true then some (.int (na l (2 ^ m.toNat)),g) else aa
noncomputable def uO (ds:List D) (g:G):Option (D×G):=(uv ds).bind fun d=>(sG d).bind fun s=>some (.loc (g.length+1),g++[.sg s,.lex 1 (some g.length) []])
noncomputable def sa (ds:List D) (g:G):Option (D×G):=(uv ds).bind fun d=>(isNone d).bind fun _=>some (.loc g.length,g++[.lex 1 aa []])
noncomputable def OS (g:G) (d:D):Option Nat:=match d with
| .lst xs=>some xs.length
| .str xs=>some xs.length
| .loc i=>g[i]?.bind fun o=>(sR o).bind fun rows=>some rows.length
| _=>aa
noncomputable def Bt (ds:List D) (g:G):Option (D×G):=(uv ds).bind fun d=>(OS g d).bind fun n=>some (.int n,g)
noncomputable def Aj (ds:List D) (g:G):Option (D×G):=(u0 ds).bind fun q=>(oH q.1).bind fun a=>match q.2 with
| []=>some (.rng 0 a,g)
| b::r=>(sy r).bind fun _=>(oH b).bind fun b=>some (.rng a b,g)
noncomputable def tC (ds:List D) (g:G):Option (D×G):=(uv ds).bind fun d=>(tj d).bind fun xs=>(sQ xs).bind fun l=>if l.all fun i=>decide (i.natAbs<1099511627776) then some (.int l.sum,g) else aa
noncomputable def Gu:D->Option (Int×Int)
| .rng a b=>some (a,b)
| _=>aa
noncomputable def Do (ds:List D) (g:G):Option (D×G):=(uv ds).bind fun d=>(Gu d).bind fun q=>if yH q.1 q.2 then some (.lst (vy (q.2-q.1).toNat q.1),g) else aa
noncomputable def zF:D->Option Unit
| .Sk=>some ()
| _=>aa
noncomputable def ux (ds:List D) (g:G):Option (D×G):=(Ce ds).bind fun q=>(zF q.2).bind fun _=>match q.1 with
| .int _=>some (.bool true,g)
| .lst _=>some (.bool false,g)
| _=>aa
noncomputable def vN (ds:List D) (g:G):Option (D×G):=(Ce ds).bind fun q=>(oH q.1).bind fun a=>(oH q.2).bind fun b=>if b≠0/\lw b then some (.tup [.int (aL a b),.int (aQ a b)],g) else aa
noncomputable def special (f:Str):Option (List D->G->Option (D×G)):=
 if f==("_int2digits" :Str) then some qL
 else if f==("_digits2int" :Str) then some qM
 else if f==("_law_lexer" :Str) then some uO
 else if f==("_netrclex" :Str) then some sa
 else if f==("len" :Str) then some Bt
 else if f==("range" :Str) then some Aj
 else if f==("sum" :Str) then some tC
 else if f==("list" :Str) then some Do
 else if f==("isinstance" :Str) then some ux
 else if f==("divmod" :Str) then some vN
 else aa
noncomputable def q7 (b:Bool):Option Unit:=if b then some () else aa
noncomputable def iterLoop {σ:Type} (step:D->σ->G->Option (σ×G×Option D)):List D->σ->G->Option (σ×G×Option D)
| [],s,g=>some (s,g,aa)
| d::ds,s,g=>(step d s g).bind fun x=>match x.2.2 with
  | aa=>iterLoop step ds x.1 x.2.1
  | some _=>some x
noncomputable def qg (st:St) (y:Str) (o:OW):St:=⟨st.ρ,st.up,some (y,o)⟩
noncomputable def Rq (st:St) (x:Str) (o:OW):Option St:=match st.freeze.ρ.lookup x with
| aa=>some ⟨st.freeze.ρ,st.up,some (x,o)⟩
| _=>aa
noncomputable def oO (st:St) (x:Str):Bool:=match st.own with
| some (y,_)=>y !=x
| aa=>true
noncomputable def oR:Expr->List Str
| .Name x _=>[x]
| .Tuple es _ _=>es.filterMap qE
| _=>[]
noncomputable def mt (x:Str):Bool:=!(x==("__debug__" :Str))&&!(x==("__classdict__" :Str))
noncomputable def pK (sc:aX) (x:Str):Bool:=match sc.names.lookup x with
| some .local=>true
| some .cell=>true
| _=>false
noncomputable def yz (sc:aX) (x:Str):Bool:=match sc.names.lookup x with
| some .free=>true
| some .cell=>true
| _=>false
noncomputable def cr:List Str->Bool
| []=>true
| x::r=>!(r.contains x)&&cr r
noncomputable def pX (sc:aX) (st:St) (t:Expr):Bool:=((oR t).all fun x=>oO st x&&pK sc x)&&cr (oR t)
noncomputable def yg (sc Qh:aX):Bool:=Qh.kind== .function&&Qh.names.all fun p=>Qh.names.lookup p.1==some p.2&&!(p.2== .cell)&&(!(p.2== .free) ||sc.names.lookup p.1==some .cell ||sc.names.lookup p.1==some .free)
noncomputable def tQ (Qh:aX) (t:Expr):Bool:=((oR t).all fun x=>Qh.names.lookup x==some .local)&&cr (oR t)
noncomputable def uR:Expr->Bool
| .Tuple vs _ _=>!(vs.all (constantsAlone 8))
| _=>true
noncomputable def NV (op:UnaryOp) (a:D):Option D:=match op with
| .USub=>(oH a).bind fun i=>some (.int (-i))
| .Invert=>(oH a).bind fun i=>some (.int (-i-1))
| _=>aa
noncomputable def Jv (a:D):Option D:=(tj a).bind fun xs=>some (.lst xs.reverse)
noncomputable def xC (a:Str) (o:MO):Option D:=(yF o).bind fun q=>if a==("lineno" :Str) then some (.int q.1) else if a==("whitespace" :Str) then some (.str [10,9,13,32]) else aa
noncomputable def NN:Fl->Option D
| .ret d=>some d
| .next=>aa
noncomputable def FK:Fl->Option Unit
| .next=>some ()
| .ret _=>aa
noncomputable def rK:Fl->Option D
| .next=>aa
| .ret d=>some d
noncomputable def FB:Option D->Fl
| aa=> .next
| some d=> .ret d
noncomputable def Oj:OW->Option (List (Int×Int))
| .QC Qx=>some Qx
| .lst _=>aa
noncomputable def MQ:OW->Option (List D)
| .lst xs=>some xs
| .QC _=>aa
noncomputable def tJ (st:St) (x:Str):Option (List (Int×Int)):=st.own.bind fun q=>if x==q.1 then Oj q.2 else aa
noncomputable def tV (st:St) (x:Str):Option (List D):=st.own.bind fun q=>if x==q.1 then MQ q.2 else aa
noncomputable def Nc (Qx:List (Int×Int)) (ds:List D):Option D:=(Ce ds).bind fun q=>(oH q.1).bind fun k=>(oH q.2).bind fun d=>some (.int ((Qx.lookup k).getD d))
noncomputable def ownMeth (m:Str) (xs:List D) (ds:List D):Option (List D):=match ds with
| []=>if m==("reverse" :Str) then some xs.reverse else aa
| d::r=>(sy r).bind fun _=>if m==("append" :Str) then (if xs.length<lim then some (xs++[d]) else aa) else if m==("extend" :Str) then (tj d).bind fun ys=>if (xs++ys).length<=lim then some (xs++ys) else aa else aa
noncomputable def Kw:List Expr->Bool
| []=>true
| _::_=>false
noncomputable def tG:Expr->Option (List Expr)
| .List es _=>some es
| _=>aa
noncomputable def dictOf:Expr->Option (List (Option Expr)×List Expr)
| .Dict ks vs _=>some (ks,vs)
| _=>aa
noncomputable def xJ (e:Expr):Bool:=match dictOf e with
| some q=>q.1.isEmpty&&q.2.isEmpty
| aa=>false
noncomputable def BG:Expr->Option (Expr×List Expr×List Keyword)
| .Call f as ks _=>some (f,as,ks)
| _=>aa
noncomputable def ze:Expr->Option (Expr×Expr)
| .Subscript v i _=>some (v,i)
| _=>aa
noncomputable def qW (sc:aX) (f:Str) (e:Expr):Option Expr:=(BG e).bind fun q=>(qE q.1).bind fun x=>(uv q.2.1).bind fun a=>(sy q.2.2).bind fun _=>if pZ sc x&&x==f then some a else aa
noncomputable def qk (p:bY) (sc:aX) (st:St) (e:Expr):Option (Nat×Expr):=(ze e).bind fun q=>(qE q.1).bind fun y=>if mt y then (nameD p sc st y).bind fun d=>(xV d).bind fun l=>some (l,q.2) else aa
noncomputable def inop (op:iE) (a b:D):Option D:=match op with
| .Add=>match a with
  | .lst _=>aa
  | _=>Oq a b
| .Sub=>binop .Sub a b
| _=>aa
noncomputable def zA:Expr->Bool
| .ListComp .. =>false
| .SetComp .. =>false
| .DictComp .. =>false
| _=>true
noncomputable def vW (zM:St->G->Option (Bool×G)) (step:St->G->Option (Fl×St×G)):Nat->St->G->Option (Fl×St×G)
| 0,_,_=>aa
| k+1,st,g=>(zM st g).bind fun b=>if b.1 then (step st b.2).bind fun x=>(FK x.1).bind fun _=>vW zM step k x.2.1 x.2.2 else some (.next,st,b.2)
noncomputable def vU (p:bY) (sc:aX) (st:St):List Expr->Option (List D)
| []=>some []
| e::r=>(qE e).bind fun x=>(q7 (mt x)).bind fun _=>(nameD p sc st x).bind fun d=>(vU p sc st r).bind fun ds=>some (d::ds)
set_option genInjectivity false in
inductive EV:Expr->Type
| const (c k p):EV (.Constant c k p)
| name (x p):EV (.Name x p)
| bin (l op r p):EV (.BinOp l op r p)
| un (op x p):EV (.UnaryOp op x p)
| ifx (t b o p):EV (.IfExp t b o p)
| RQ (vs p):EV (.BoolOp .And vs p)
| cmp (l op r p):EV (.Compare l [op] [r] p)
| tup (es k p):EV (.Tuple es k p)
| lst (es p):EV (.List es p)
| slice (v lo hi sp p):EV (.Subscript v (.Slice lo hi none sp) p)
| rev (v q p1 p2 sp p):EV (.Subscript v (.Slice none none (some (.UnaryOp .USub (.Constant (.int 1) q p1) p2)) sp) p)
| sub (v i p):EV (.Subscript v i p)
| lc (elt t it ifs Qh p):EV (.ListComp elt [⟨t,it,ifs,0⟩] Qh p)
| SO (elt t it t2 it2 Qh p):EV (.ListComp elt [⟨t,it,[],0⟩,⟨t2,it2,[],0⟩] Qh p)
| dc (k v t it ifs Qh p):EV (.DictComp k v [⟨t,it,ifs,0⟩] Qh p)
| attr (x xp a p):EV (.Attribute (.Name x xp) a p)
| call (f fp as p):EV (.Call (.Name f fp) as [] p)
| S9 (x xp m ap as p):EV (.Call (.Attribute (.Name x xp) m ap) as [] p)
| Wa (s q xp m ap as p):EV (.Call (.Attribute (.Constant (.str s) q xp) m ap) as [] p)
| other (e):EV e
noncomputable def MR (v:Expr) (p:Pos):(i:Expr)->EV (.Subscript v i p)
| .Slice lo hi none sp=> .slice v lo hi sp p
| .Slice none none (some (.UnaryOp .USub (.Constant (.int 1) q p1) p2)) sp=> .rev v q p1 p2 sp p
| .Slice .. => .other _
| i=> .sub v i p
noncomputable def La (as:List Expr) (p:Pos):(f:Expr)->EV (.Call f as [] p)
| .Name f fp=> .call f fp as p
| .Attribute (.Name x xp) m ap=> .S9 x xp m ap as p
| .Attribute (.Constant (.str s) q xp) m ap=> .Wa s q xp m ap as p
| _=> .other _
noncomputable def ev:(e:Expr)->EV e
| .Constant c k p=> .const c k p
| .Name x p=> .name x p
| .BinOp l op r p=> .bin l op r p
| .UnaryOp op x p=> .un op x p
| .IfExp t b o p=> .ifx t b o p
| .BoolOp .And vs p=> .RQ vs p
| .Compare l [op] [r] p=> .cmp l op r p
| .Tuple es k p=> .tup es k p
| .List es p=> .lst es p
| .Subscript v i p=>MR v p i
| .ListComp elt [⟨t,it,ifs,0⟩] Qh p=> .lc elt t it ifs Qh p
| .ListComp elt [⟨t,it,[],0⟩,⟨t2,it2,[],0⟩] Qh p=> .SO elt t it t2 it2 Qh p
| .DictComp k v [⟨t,it,ifs,0⟩] Qh p=> .dc k v t it ifs Qh p
| .Attribute (.Name x xp) a p=> .attr x xp a p
| .Call f as [] p=>La as p f
| _=> .other _
noncomputable def BU:Expr->Bool
| .UnaryOp op _ _=>op != .Not
| .BoolOp .. =>false
| .IfExp .. =>false
| .Compare .. =>false
| _=>true
set_option genInjectivity false in
inductive TV:Expr->Type
| not (x p):TV (.UnaryOp .Not x p)
| UJ (vs p):TV (.BoolOp .Or vs p)
| RQ (vs p):TV (.BoolOp .And vs p)
| cmp (l op r p):TV (.Compare l [op] [r] p)
| plain (e) (h:BU e=true):TV e
| other (e):TV e
noncomputable def tv:(e:Expr)->TV e
| .UnaryOp .Not x p=> .not x p
| .BoolOp .Or vs p=> .UJ vs p
| .BoolOp .And vs p=> .RQ vs p
| .Compare l [op] [r] p=> .cmp l op r p
| e=>if h:BU e=true then .plain e h else .other e
set_option genInjectivity false in
inductive SV:Stmt->Type
| ret (e p):SV (.Return (some e) p)
| if_ (t b o p):SV (.If t b o p)
| Rg (t b p):SV (.While t b [] p)
| Sg (t it b p):SV (.For t it b [] p)
| asg (x xp e p):SV (.Assign [.Name x xp] e p)
| Zc (ts k tp e p):SV (.Assign [.Tuple ts k tp] e p)
| X3 (x xp i ip e p):SV (.Assign [.Subscript (.Name x xp) i ip] e p)
| aug (x xp op e p):SV (.AugAssign (.Name x xp) op e p)
| Zb (x xp i ip op e p):SV (.AugAssign (.Subscript (.Name x xp) i ip) op e p)
| S9 (x xp m ap as cp p):SV (.Expr (.Call (.Attribute (.Name x xp) m ap) as [] cp) p)
| ext (t tp i ip m ap es lp cp p):SV (.Expr (.Call (.Attribute (.Subscript (.Name t tp) i ip) m ap) [.List es lp] [] cp) p)
| other (s):SV s
noncomputable def NP (e:Expr) (p:Pos):(t:Expr)->SV (.Assign [t] e p)
| .Name x xp=> .asg x xp e p
| .Tuple ts k tp=> .Zc ts k tp e p
| .Subscript (.Name x xp) i ip=> .X3 x xp i ip e p
| _=> .other _
noncomputable def Nm (op:iE) (e:Expr) (p:Pos):(t:Expr)->SV (.AugAssign t op e p)
| .Name x xp=> .aug x xp op e p
| .Subscript (.Name x xp) i ip=> .Zb x xp i ip op e p
| _=> .other _
noncomputable def K7 (p:Pos):(e:Expr)->SV (.Expr e p)
| .Call (.Attribute (.Name x xp) m ap) as [] cp=> .S9 x xp m ap as cp p
| .Call (.Attribute (.Subscript (.Name t tp) i ip) m ap) [.List es lp] [] cp=> .ext t tp i ip m ap es lp cp p
| _=> .other _
noncomputable def sv:(s:Stmt)->SV s
| .Return (some e) p=> .ret e p
| .If t b o p=> .if_ t b o p
| .While t b [] p=> .Rg t b p
| .For t it b [] p=> .Sg t it b p
| .Assign [t] e p=>NP e p t
| .AugAssign t op e p=>Nm op e p t
| .Expr e p=>K7 p e
| _=> .other _
section
variable (p:bY)
set_option genInjectivity false in
structure Fs where
 e:aX->St->Expr->G->Option (D×G)
 t:aX->St->Expr->G->Option (Bool×G)
 UJ:aX->St->List Expr->G->Option (Bool×G)
 Ti:aX->St->List Expr->G->Option (Bool×G)
 RQ:aX->St->List Expr->G->Option (D×G)
 es:aX->St->List Expr->G->Option (List D×G)
 ifs:aX->St->List Expr->G->Option (Bool×G)
 opt:aX->St->Option Expr->G->Option (Option Int×G)
 call:Str->List D->G->Option (D×G)
 ss:aX->St->List Stmt->G->Option (Fl×St×G)
 Sg:aX->St->Expr->List D->List Stmt->G->Option (Fl×St×G)
 Rg:aX->St->Expr->List Stmt->G->Option (Fl×St×G)
 s:aX->St->Stmt->G->Option (Fl×St×G)
section
variable (F:Fs) (sc:aX) (st:St)
noncomputable def O8 (t elt:Expr) (ifs:List Expr) (Qh:aX) (d:D) (acc:List D) (g:G):Option (List D×G×Option D):=
 (bv t d []).bind fun ρ=>(F.ifs Qh ((st.comp sc Qh).withRho ρ) ifs g).bind fun b=>
  if b.1 then (F.e Qh ((st.comp sc Qh).withRho ρ) elt b.2).bind fun x=>some (acc++[x.1],x.2,aa) else some (acc,b.2,aa)
noncomputable def PV (t2 elt:Expr) (Qh:aX) (ρ:Qm) (d2:D) (acc:List D) (g:G):Option (List D×G×Option D):=
 (bv t2 d2 ρ).bind fun Z5=>(F.e Qh ((st.comp sc Qh).withRho Z5) elt g).bind fun x=>some (acc++[x.1],x.2,aa)
noncomputable def Qa (t it2 t2 elt:Expr) (Qh:aX) (d:D) (acc:List D) (g:G):Option (List D×G×Option D):=
 (bv t d []).bind fun ρ=>(F.e Qh ((st.comp sc Qh).withRho ρ) it2 g).bind fun x=>(itemsOf x.1).bind fun UC=>
  (iterLoop (PV F sc st t2 elt Qh ρ) UC acc x.2).bind fun y=>some (y.1,y.2.1,aa)
noncomputable def Pu (t k v:Expr) (ifs:List Expr) (Qh:aX) (d:D) (acc:List (Int×Int)) (g:G):Option (List (Int×Int)×G×Option D):=
 (bv t d []).bind fun ρ=>(F.ifs Qh ((st.comp sc Qh).withRho ρ) ifs g).bind fun b=>
  if b.1 then (F.e Qh ((st.comp sc Qh).withRho ρ) k b.2).bind fun x=>(F.e Qh ((st.comp sc Qh).withRho ρ) v x.2).bind fun y=>(oH x.1).bind fun x'=>(oH y.1).bind fun y'=>some (put x' y' acc,y.2,aa) else some (acc,b.2,aa)
noncomputable def MG (t:Expr) (body:List Stmt) (d:D) (st:St) (g:G):Option (St×G×Option D):=
 (q7 (pX sc st t)).bind fun _=>(bv t d st.ρ).bind fun ρ=>(F.ss sc (st.withRho ρ) body g).bind fun x=>some (x.2.1,x.2.2,rK x.1)
noncomputable def Ay (n:Nat) (g:G) {e:Expr} (v:EV e):Option (D×G):=EV.casesOn (motive:=fun _ _=>Option (D×G)) v
 (fun c _ _=>(K5 c).bind fun d=>some (d,g))
 (fun x _=>(q7 (mt x)).bind fun _=>(nameD p sc st x).bind fun d=>some (d,g))
 (fun l op r _=>(F.e sc st l g).bind fun a=>(F.e sc st r a.2).bind fun b=>(binop op a.1 b.1).bind fun d=>some (d,b.2))
 (fun op x _=>(F.e sc st x g).bind fun a=>(NV op a.1).bind fun d=>some (d,a.2))
 (fun t b o _=>(F.t sc st t g).bind fun c=>if c.1 then F.e sc st b c.2 else F.e sc st o c.2)
 (fun vs _=>F.RQ sc st vs g)
 (fun l op r _=>(F.e sc st l g).bind fun a=>(F.e sc st r a.2).bind fun b=>(cmp p op a.1 b.1).bind fun c=>some (.bool c,b.2))
 (fun es _ _=>(F.es sc st es g).bind fun x=>(q7 (x.1.length<=lim)).bind fun _=>some (.tup x.1,x.2))
 (fun es _=>(F.es sc st es g).bind fun x=>(Ei x.1).bind fun d=>some (d,x.2))
 (fun v lo hi _ _=>(F.e sc st v g).bind fun a=>(F.opt sc st lo a.2).bind fun l=>(F.opt sc st hi l.2).bind fun h=>(xc h.2 a.1 l.1 h.1).bind fun d=>some (d,h.2))
 (fun v _ _ _ _ _=>(F.e sc st v g).bind fun a=>(Jv a.1).bind fun d=>some (d,a.2))
 (fun v i _=>(F.e sc st v g).bind fun a=>(F.e sc st i a.2).bind fun k=>(subD p a.1 k.1).bind fun d=>some (d,k.2))
 (fun elt t it ifs Qh _=>(q7 (yg sc Qh&&tQ Qh t)).bind fun _=>(F.e sc st it g).bind fun x=>(itemsOf x.1).bind fun ds=>(iterLoop (O8 F sc st t elt ifs Qh) ds [] x.2).bind fun y=>(Ei y.1).bind fun d=>some (d,y.2.1))
 (fun elt t it t2 it2 Qh _=>(q7 (yg sc Qh&&tQ Qh t&&tQ Qh t2&&cr (oR t++oR t2))).bind fun _=>(F.e sc st it g).bind fun x=>(itemsOf x.1).bind fun ds=>(iterLoop (Qa F sc st t it2 t2 elt Qh) ds [] x.2).bind fun y=>(Ei y.1).bind fun d=>some (d,y.2.1))
 (fun k v t it ifs Qh _=>(q7 (yg sc Qh&&tQ Qh t)).bind fun _=>(F.e sc st it g).bind fun x=>(itemsOf x.1).bind fun ds=>(iterLoop (Pu F sc st t k v ifs Qh) ds [] x.2).bind fun y=>(q7 (y.1.length<=lim)).bind fun _=>some (.QC y.1,y.2.1))
 (fun x xp a _=>(F.e sc st (.Name x xp) g).bind fun d=>(xV d.1).bind fun l=>d.2[l]?.bind fun o=>(xC a o).bind fun r=>some (r,d.2))
 (fun f _ as _=>(q7 (pZ sc f&&mt f)).bind fun _=>(F.es sc st as g).bind fun x=>F.call f x.1 x.2)
 (fun x xp m ap as cp=>match tJ st x with
  | some Qx=>(q7 (m==("get" :Str)&&ap.endLine==cp.line&&as.length<30&&mt x)).bind fun _=>(F.es sc st as g).bind fun y=>(Nc Qx y.1).bind fun d=>some (d,y.2)
  | aa=>(q7 (ap.endLine==cp.line&&as.length<30&&decide (Ki m<=n))).bind fun _=>(F.e sc st (.Name x xp) g).bind fun a=>(F.es sc st as a.2).bind fun y=>(q7 (qe a.2 a.1==qe y.2 a.1)).bind fun _=>methD m a.1 y.1 y.2)
 (fun s _ _ m ap as cp=>(q7 (ap.endLine==cp.line&&as.length<30&&s.length<=lim)).bind fun _=>(F.es sc st as g).bind fun y=>methD m (.str s.cps.toList) y.1 y.2)
 (fun _=>aa)
noncomputable def KB (g:G) {e:Expr} (v:TV e):Option (Bool×G):=TV.casesOn (motive:=fun _ _=>Option (Bool×G)) v
 (fun x _=>(F.t sc st x g).bind fun b=>some (!b.1,b.2))
 (fun vs _=>F.UJ sc st vs g)
 (fun vs _=>F.Ti sc st vs g)
 (fun l op r _=>(F.e sc st l g).bind fun a=>(F.e sc st r a.2).bind fun b=>(cmp p op a.1 b.1).bind fun c=>some (c,b.2))
 (fun e _=>(F.e sc st e g).bind fun d=>(sM d.1).bind fun b=>some (b,d.2))
 (fun _=>aa)
noncomputable def LB (es:List Expr) (g:G):Option (Bool×G):=match es with
| []=>some (false,g)
| e::r=>(F.t sc st e g).bind fun b=>if b.1 then some (true,b.2) else F.UJ sc st r b.2
noncomputable def Fm (es:List Expr) (g:G):Option (Bool×G):=match es with
| []=>some (true,g)
| e::r=>(F.t sc st e g).bind fun b=>if b.1 then F.Ti sc st r b.2 else some (false,b.2)
noncomputable def Ii (es:List Expr) (g:G):Option (D×G):=match es with
| []=>aa
| e::r=>match r with
  | []=>F.e sc st e g
  | _::_=>(F.e sc st e g).bind fun d=>(sM d.1).bind fun b=>if b then F.RQ sc st r d.2 else some (.bool false,d.2)
noncomputable def LQ (es:List Expr) (g:G):Option (List D×G):=match es with
| []=>some ([],g)
| e::r=>(F.e sc st e g).bind fun d=>(F.es sc st r d.2).bind fun ds=>some (d.1::ds.1,ds.2)
noncomputable def Ia (es:List Expr) (g:G):Option (Bool×G):=match es with
| []=>some (true,g)
| e::r=>(sy r).bind fun _=>F.t sc st e g
noncomputable def Jf (e:Option Expr) (g:G):Option (Option Int×G):=match e with
| aa=>some (aa,g)
| some e=>(F.e sc st e g).bind fun d=>(oH d.1).bind fun i=>some (some i,d.2)
noncomputable def rz (n:Nat) (f:Str) (ds:List D) (g:G):Option (D×G):=match special f with
| some h=>(q7 (decide (30<=n))).bind fun _=>h ds g
| aa=>(o8 p f).bind fun fn=>(q7 (fn.params.length==ds.length&&!fn.scope.isGenerator)).bind fun _=>(F.ss fn.scope ⟨fn.params.zip ds,[],aa⟩ fn.body g).bind fun x=>(NN x.1).bind fun d=>some (d,x.2.2)
noncomputable def Ll (ss:List Stmt) (g:G):Option (Fl×St×G):=match ss with
| []=>some (.next,st,g)
| s::r=>(F.s sc st s g).bind fun x=>match x.1 with
  | .next=>F.ss sc x.2.1 r x.2.2
  | .ret d=>some (.ret d,x.2.1,x.2.2)
noncomputable def I6 (t:Expr) (ds:List D) (body:List Stmt) (g:G):Option (Fl×St×G):=(iterLoop (MG F sc t body) ds st g).bind fun x=>some (FB x.2.2,x.1,x.2.1)
noncomputable def sY (x:Str) (e:Expr) (g:G):Option (Fl×St×G):=match tG e with
| some es=>if Kw es&&x==("table" :Str) then (q7 (oO st x&&pK sc x)).bind fun _=>some (.next,st.withRho ((x,.loc g.length)::st.ρ),g++[.Qu []])
   else (q7 (pK sc x)).bind fun _=>(F.es sc st.freeze es g).bind fun y=>(q7 (y.1.length<=lim)).bind fun _=>(Rq st x (.lst y.1)).bind fun st=>some (.next,st,y.2)
| aa=>if xJ e then (q7 (pK sc x)).bind fun _=>(Rq st x (.QC [])).bind fun st=>some (.next,st,g)
   else match (q7 (oO st x&&pK sc x)).bind fun _=>F.e sc st e g with
    | some y=>some (.next,st.withRho ((x,y.1)::st.ρ),y.2)
    | aa=>(q7 (pK sc x)).bind fun _=>(F.e sc st.freeze e g).bind fun y=>some (.next,st.freeze.withRho ((x,y.1)::st.freeze.ρ),y.2)
noncomputable def qj (n:Nat) (x:Str) (xp:Pos) (m:Str) (ap:Pos) (as:List Expr) (cp:Pos) (g:G):Option (Fl×St×G):=match tV st x with
| some xs=>(q7 (ap.endLine==cp.line&&as.length<30&&mt x)).bind fun _=>(F.es sc st as g).bind fun y=>(ownMeth m xs y.1).bind fun ys=>some (.next,qg st x (.lst ys),y.2)
| aa=>(q7 (ap.endLine==cp.line&&as.length<30&&decide (Ki m<=n))).bind fun _=>(F.e sc st (.Name x xp) g).bind fun d=>(xV d.1).bind fun l=>
  if m==("append" :Str) then (uv as).bind fun a=>(tG a).bind fun es=>(sy es).bind fun _=>d.2[l]?.bind fun o=>(sR o).bind fun rows=>(q7 (rows.length<lim)).bind fun _=>some (.next,st,d.2.set l (.Qu (rows++[[]])))
  else (q7 (m==("push_token" :Str))).bind fun _=>(F.es sc st as d.2).bind fun y=>(q7 (qe d.2 (.loc l)==qe y.2 (.loc l))).bind fun _=>(methD m (.loc l) y.1 y.2).bind fun z=>some (.next,st,z.2)
noncomputable def Ku (n:Nat) (g:G) {s:Stmt} (v:SV s):Option (Fl×St×G):=SV.casesOn (motive:=fun _ _=>Option (Fl×St×G)) v
 (fun e _=>(F.e sc st.freeze e g).bind fun d=>some (.ret d.1,st.freeze,d.2))
 (fun t b o _=>(F.t sc st t g).bind fun c=>if c.1 then F.ss sc st b c.2 else F.ss sc st o c.2)
 (fun t b _=>F.Rg sc st t b g)
 (fun t it b _=>match qW sc "_iter_escaped_chars" it with
  | some a=>(F.e sc st a g).bind fun d=>(sG d.1).bind fun s=>F.Sg sc st t (units s) b d.2
  | aa=>match qW sc "reversed" it with
   | some a=>(F.e sc st a g).bind fun d=>(tj d.1).bind fun xs=>F.Sg sc st t xs.reverse b d.2
   | aa=>(F.e sc st it g).bind fun d=>(itemsOf d.1).bind fun ds=>F.Sg sc st t ds b d.2)
 (fun x _ e _=>sY F sc st x e g)
 (fun ts k tp e _=>match qk p sc st e with
  | some q=>(q7 (pX sc st (.Tuple ts k tp))).bind fun _=>(F.e sc st q.2 g).bind fun d=>(qq d.1).bind fun k=>d.2[q.1]?.bind fun o=>(sR o).bind fun rows=>rows[k]?.bind fun ds=>(zb ts ds st.ρ).bind fun ρ=>some (.next,st.withRho ρ,d.2)
  | aa=>(q7 (pX sc st (.Tuple ts k tp)&&uR e)).bind fun _=>(F.e sc st e g).bind fun d=>(bv (.Tuple ts k tp) d.1 st.ρ).bind fun ρ=>some (.next,st.withRho ρ,d.2))
 (fun x _ i _ e _=>(tJ st x).bind fun Qx=>(q7 (mt x&&zA e)).bind fun _=>(F.e sc st e g).bind fun d=>(F.e sc st i d.2).bind fun k=>(oH d.1).bind fun v=>(oH k.1).bind fun j=>(q7 (Qx.length<lim)).bind fun _=>some (.next,qg st x (.QC (put j v Qx)),k.2))
 (fun x xp op e _=>(q7 (oO st x&&pK sc x)).bind fun _=>(F.e sc st (.Name x xp) g).bind fun a=>(F.e sc st e a.2).bind fun b=>(inop op a.1 b.1).bind fun d=>some (.next,st.withRho ((x,d)::st.ρ),b.2))
 (fun x _ i _ op e _=>(tV st x).bind fun xs=>(q7 (mt x)).bind fun _=>(F.e sc st i g).bind fun k=>(qq k.1).bind fun j=>xs[j]?.bind fun a=>(F.e sc st e k.2).bind fun b=>(inop op a b.1).bind fun d=>some (.next,qg st x (.lst (xs.set j d)),b.2))
 (fun x xp m ap as cp _=>qj F sc st n x xp m ap as cp g)
 (fun t tp i _ m ap es _ cp _=>(q7 (m==("extend" :Str)&&ap.endLine==cp.line)).bind fun _=>(F.e sc st (.Name t tp) g).bind fun d=>(xV d.1).bind fun l=>(F.e sc st i d.2).bind fun k=>(qq k.1).bind fun j=>(vU p sc st es).bind fun ys=>k.2[l]?.bind fun o=>(sR o).bind fun rows=>rows[j]?.bind fun xs=>(q7 ((xs++ys).length<=lim)).bind fun _=>some (.next,st,k.2.set l (.Qu (rows.set j (xs++ys)))))
 (fun _=>aa)
end
noncomputable def Qb:Fs:=⟨fun _ _ _ _=> .none,fun _ _ _ _=> .none,fun _ _ _ _=> .none,fun _ _ _ _=> .none,fun _ _ _ _=> .none,fun _ _ _ _=> .none,fun _ _ _ _=> .none,fun _ _ _ _=> .none,fun _ _ _=> .none,fun _ _ _ _=> .none,fun _ _ _ _ _ _=> .none,fun _ _ _ _ _=> .none,fun _ _ _ _=> .none⟩
noncomputable def up (n:Nat) (F:Fs):Fs where
 e:=fun sc st e g=>Ay p F sc st n g (ev e)
 t:=fun sc st e g=>KB p F sc st g (tv e)
 UJ:=LB F
 Ti:=Fm F
 RQ:=Ii F
 es:=LQ F
 ifs:=Ia F
 opt:=Jf F
 call:=rz p F n
 ss:=Ll F
 Sg:=I6 F
 Rg:=fun sc st t body g=>vW (fun st g=>F.t sc st t g) (fun st g=>F.ss sc st body g) 200 st g
 s:=fun sc st s g=>Ku p F sc st n g (sv s)
noncomputable def fs (n:Nat):Fs:=jM (motive:=fun _=>Fs) Qb (fun n F=>up p n F) n
noncomputable def ceE (n:Nat) (sc:aX) (st:St) (e:Expr) (g:G):Option (D×G):=(fs p n).e sc st e g
noncomputable def ceT (n:Nat) (sc:aX) (st:St) (e:Expr) (g:G):Option (Bool×G):=(fs p n).t sc st e g
noncomputable def ceOr (n:Nat) (sc:aX) (st:St) (es:List Expr) (g:G):Option (Bool×G):=(fs p n).UJ sc st es g
noncomputable def ceAndT (n:Nat) (sc:aX) (st:St) (es:List Expr) (g:G):Option (Bool×G):=(fs p n).Ti sc st es g
noncomputable def ceAnd (n:Nat) (sc:aX) (st:St) (es:List Expr) (g:G):Option (D×G):=(fs p n).RQ sc st es g
noncomputable def ceEs (n:Nat) (sc:aX) (st:St) (es:List Expr) (g:G):Option (List D×G):=(fs p n).es sc st es g
noncomputable def ceIfs (n:Nat) (sc:aX) (st:St) (es:List Expr) (g:G):Option (Bool×G):=(fs p n).ifs sc st es g
noncomputable def ceOpt (n:Nat) (sc:aX) (st:St) (e:Option Expr) (g:G):Option (Option Int×G):=(fs p n).opt sc st e g
noncomputable def ceCall (n:Nat) (f:Str) (ds:List D) (g:G):Option (D×G):=(fs p n).call f ds g
noncomputable def ceSs (n:Nat) (sc:aX) (st:St) (ss:List Stmt) (g:G):Option (Fl×St×G):=(fs p n).ss sc st ss g
noncomputable def wr (n:Nat) (sc:aX) (st:St) (t:Expr) (ds:List D) (body:List Stmt) (g:G):Option (Fl×St×G):=(fs p n).Sg sc st t ds body g
noncomputable def CQ (n:Nat) (sc:aX) (st:St) (t:Expr) (body:List Stmt) (g:G):Option (Fl×St×G):=(fs p n).Rg sc st t body g
noncomputable def ceS (n:Nat) (sc:aX) (st:St) (s:Stmt) (g:G):Option (Fl×St×G):=(fs p n).s sc st s g
end
section
variable {α β H δ ε ζ:Type}
theorem bi:∀ {o:Option α} {f:α->Option β} {r:β} (h:o.bind f=some r),∃ a,o=some a/\f a=some r:=by iterate 4 cases o with | none=>cases h | some a=>exact ⟨a,rfl,h⟩
theorem qI:∀ {o:Option α} {p:α->Option β} {f:α->β->Option H} {r:H} (h:(o.bind fun a=>(p a).bind (f a))=some r),∃ a,o=some a/\∃ b,p a=some b/\f a b=some r:=by iterate 5 exact ((bi h).elim fun a h=>⟨a,h.1,bi h.2⟩)
theorem vq:∀ {o:Option α} {p:α->Option β} {q:α->β->Option H} {f:α->β->H->Option δ} {r:δ} (h:(o.bind fun a=>(p a).bind fun b=>(q a b).bind (f a b))=some r),∃ a,o=some a/\∃ b,p a=some b/\∃ c,q a b=some c/\f a b c=some r:=by iterate 6 exact ((bi h).elim fun a h=>⟨a,h.1,qI h.2⟩)
theorem zW:∀ {o:Option α} {p:α->Option β} {q:α->β->Option H} {t:α->β->H->Option δ} {f:α->β->H->δ->Option ε} {r:ε} (h:(o.bind fun a=>(p a).bind fun b=>(q a b).bind fun c=>(t a b c).bind (f a b c))=some r),∃ a,o=some a/\∃ b,p a=some b/\∃ c,q a b=some c/\∃ d,t a b c=some d/\f a b c d=some r:=by iterate 7 exact ((bi h).elim fun a h=>⟨a,h.1,vq h.2⟩)
theorem OD:∀ {o:Option α} {p:α->Option β} {q:α->β->Option H} {t:α->β->H->Option δ} {u:α->β->H->δ->Option ε} {f:α->β->H->δ->ε->Option ζ} {r:ζ} (h:(o.bind fun a=>(p a).bind fun b=>(q a b).bind fun c=>(t a b c).bind fun d=>(u a b c d).bind (f a b c d))=some r),∃ a,o=some a/\∃ b,p a=some b/\∃ c,q a b=some c/\∃ d,t a b c=some d/\∃ e,u a b c d=some e/\f a b c d e=some r:=by iterate 8 exact ((bi h).elim fun a h=>⟨a,h.1,zW h.2⟩)
end
theorem be:∀ {d:D} {i:Int} (h:oH d=some i),d= .int i:=by iterate 3 exact ((show d=match oH d with | some i=>D.int i | none=>d by cases d<;>rfl).trans (by rw [h]))
theorem qx:∀ {d:D} {k:Nat} (h:qq d=some k),d= .int (k:Int):=by iterate 3
 obtain ⟨i,h1,h2⟩:=bi h;split at h2
 ·rename_i hi;cases h2;rw [Int.toNat_of_nonneg hi];exact be h1
 ·cases h2
theorem pL:∀ {d:D} {b:Bool} (h:sM d=some b),d= .bool b:=by iterate 3 exact ((show d=match sM d with | some b=>D.bool b | none=>d by cases d<;>rfl).trans (by rw [h]))
theorem sS:∀ {d:D} {l:Nat} (h:xV d=some l),d= .loc l:=by iterate 3 exact ((show d=match xV d with | some l=>D.loc l | none=>d by cases d<;>rfl).trans (by rw [h]))
theorem oK:∀ {d:D} {l:List Nat} (h:sG d=some l),d= .str l:=by iterate 3 exact ((show d=match sG d with | some l=>D.str l | none=>d by cases d<;>rfl).trans (by rw [h]))
theorem ph:∀ {d:D} {l:List D} (h:tj d=some l),d= .lst l:=by iterate 3 exact ((show d=match tj d with | some l=>D.lst l | none=>d by cases d<;>rfl).trans (by rw [h]))
theorem xR:∀ {d:D} {l:List D} (h:Dq d=some l),d= .tup l:=by iterate 3 exact ((show d=match Dq d with | some l=>D.tup l | none=>d by cases d<;>rfl).trans (by rw [h]))
theorem B4:∀ {d:D} {l:List (Int×Int)} (h:Fj d=some l),d= .QC l:=by iterate 3 exact ((show d=match Fj d with | some l=>D.QC l | none=>d by cases d<;>rfl).trans (by rw [h]))
theorem BB:∀ {d:D} {l:Int×Int} (h:Gu d=some l),d= .rng l.1 l.2:=by iterate 3 exact ((show d=match Gu d with | some l=>D.rng l.1 l.2 | none=>d by cases d<;>rfl).trans (by rw [h]))
theorem rR:∀ {d:D} {u:Unit} (h:isNone d=some u),d= .none:=by iterate 3 exact ((show d=match isNone d with | some _=>D.none | none=>d by cases d<;>rfl).trans (by rw [h]))
theorem zj:∀ {d:D} {u:Unit} (h:zF d=some u),d= .Sk:=by iterate 3 exact ((show d=match zF d with | some _=>D.Sk | none=>d by cases d<;>rfl).trans (by rw [h]))
theorem sV:∀ {o:MO} {q:Int×Option Nat×List D} (h:yF o=some q),o= .lex q.1 q.2.1 q.2.2:=by iterate 3 cases o<;>cases h;rfl
theorem sC:∀ {o:MO} {q:List Nat} (h:Bf o=some q),o= .sg q:=by iterate 3 cases o<;>cases h;rfl
theorem rN:∀ {o:MO} {rows:List (List D)} (h:sR o=some rows),o= .Qu rows:=by iterate 3 cases o<;>cases h;rfl
theorem EX:∀ {o:OW} {Qx:List (Int×Int)} (h:Oj o=some Qx),o= .QC Qx:=by iterate 3 cases o<;>cases h;rfl
theorem Ej:∀ {o:OW} {xs:List D} (h:MQ o=some xs),o= .lst xs:=by iterate 3 cases o<;>cases h;rfl
theorem oU:∀ {α:Type} {l:List α} {u:Unit} (h:sy l=some u),l=[]:=by iterate 4 cases l<;>cases h;rfl
theorem qr:∀ {α:Type} {l:List α} {q:α×List α} (h:u0 l=some q),l=q.1::q.2:=by iterate 4 cases l<;>cases h;rfl
theorem oS:∀ {α:Type} {l:List α} {a:α} (h:uv l=some a),l=[a]:=by iterate 4 obtain ⟨q,h1,u,h2,h3⟩:=qI h;cases h3;rw [qr h1,oU h2]
theorem rm:∀ {α:Type} {l:List α} {a:α×α} (h:Ce l=some a),l=[a.1,a.2]:=by iterate 4 obtain ⟨q,h1,b,h2,h3⟩:=qI h;cases h3;rw [qr h1,oS h2]
theorem pV:∀ {f:Int->Int->Option D} {a b d:D} (h:zK f a b=some d),∃ i j,a= .int i/\b= .int j/\f i j=some d:=by iterate 5 obtain ⟨i,h1,j,h2,h3⟩:=qI h;exact ⟨i,j,be h1,be h2,h3⟩
theorem rW:∀ {e:Expr} {x:Str} (h:qE e=some x),∃ p,e= .Name x p:=by iterate 3 exact (⟨e.pos,(show e=match qE e with | some x=> .Name x e.pos | none=>e by cases e<;>rfl).trans (by rw [h])⟩)
theorem wK:∀ {e:Expr} {es:List Expr} (h:tG e=some es),∃ p,e= .List es p:=by iterate 3 exact (⟨e.pos,(show e=match tG e with | some x=> .List x e.pos | none=>e by cases e<;>rfl).trans (by rw [h])⟩)
theorem AJ:∀ {e:Expr} {q:Expr×List Expr×List Keyword} (h:BG e=some q),∃ p,e= .Call q.1 q.2.1 q.2.2 p:=by iterate 3 exact (⟨e.pos,(show e=match BG e with | some q=> .Call q.1 q.2.1 q.2.2 e.pos | none=>e by cases e<;>rfl).trans (by rw [h])⟩)
theorem Cd:∀ {e:Expr} {q:Expr×Expr} (h:ze e=some q),∃ p,e= .Subscript q.1 q.2 p:=by iterate 3 exact (⟨e.pos,(show e=match ze e with | some q=> .Subscript q.1 q.2 e.pos | none=>e by cases e<;>rfl).trans (by rw [h])⟩)
theorem AP:∀ {e:Expr} {q:List (Option Expr)×List Expr} (h:dictOf e=some q),∃ p,e= .Dict q.1 q.2 p:=by iterate 3 exact (⟨e.pos,(show e=match dictOf e with | some q=> .Dict q.1 q.2 e.pos | none=>e by cases e<;>rfl).trans (by rw [h])⟩)
theorem Ae:∀ {e:Expr} (h:xJ e=true),∃ p,e= .Dict [] [] p:=by iterate 2 unfold xJ at h;cases hq:dictOf e with | none=>rw [hq] at h;cases h | some q=>rw [hq] at h;obtain ⟨p,rfl⟩:=AP hq;obtain ⟨h1,h2⟩:=bx.mp h;exact ⟨p,by rw [eR.mp h1,eR.mp h2]⟩
theorem BV:∀ {es:List Expr} (h:Kw es=true),es=[]:=by iterate 2
 cases es
 ·rfl
 ·cases h
theorem xi:∀ {sc:aX} {f:Str} {e a:Expr} (h:qW sc f e=some a),∃ fp p,e= .Call (.Name f fp) [a] [] p/\pZ sc f=true:=by iterate 5
 obtain ⟨q,h1,x,h2,b,h3,u,h4,h5⟩:=zW h;obtain ⟨p,rfl⟩:=AJ h1;obtain ⟨fp,h2⟩:=rW h2;split at h5
 ·rename_i hc;cases h5;rw [ai] at hc;have hf:=eq_of_beq hc.2;subst hf;exact ⟨fp,p,by rw [h2,oS h3,oU h4],hc.1⟩
 ·cases h5
theorem dl:∀ {b:Bool} {u:Unit} (h:q7 b=some u),b=true:=by iterate 3
 cases b
 ·cases h
 ·rfl
theorem vH:∀ {x:List Nat} {d:D} (h:EZ x=some d),x.length<=lim/\d= .str x:=by iterate 3 unfold EZ at h;split at h<;>cases h;exact ⟨by assumption,rfl⟩
theorem tF:∀ {x:List D} {d:D} (h:Ei x=some d),x.length<=lim/\d= .lst x:=by iterate 3 unfold Ei at h;split at h<;>cases h;exact ⟨by assumption,rfl⟩
theorem ww:∀ {st:St} {x:Str} {Qx:List (Int×Int)} (h:tJ st x=some Qx),st.own=some (x,.QC Qx):=by iterate 4
 obtain ⟨⟨y,o⟩,h1,h2⟩:=bi h;split at h2
 ·rename_i hxy;rw [h1,eq_of_beq hxy,show o=_ from EX h2]
 ·cases h2
theorem wG:∀ {st:St} {x:Str} {xs:List D} (h:tV st x=some xs),st.own=some (x,.lst xs):=by iterate 4
 obtain ⟨⟨y,o⟩,h1,h2⟩:=bi h;split at h2
 ·rename_i hxy;rw [h1,eq_of_beq hxy,show o=_ from Ej h2]
 ·cases h2
noncomputable def oX (ln:Int) (c:Nat):Int:=if c=10 then ln+1 else ln
theorem vG:∀ {c:Nat} {r acc:List Nat} {ln:Int},tz (c::r) acc ln=if c=34 then (acc,r,oX ln c) else if c=92 then kP r (acc,[],oX ln c) (fun d r'=>tz r' (acc++[d]) (oX (oX ln c) d)) else tz r (acc++[c]) (oX ln c):=by iterate 4 cases r<;>rfl'
theorem vE:∀ {c:Nat} {r acc:List Nat} {ln:Int},sD (c::r) acc ln=if qG c=true then (acc,r,oX ln c) else if c=92 then kP r (acc,[],oX ln c) (fun d r'=>sD r' (acc++[d]) (oX (oX ln c) d)) else sD r (acc++[c]) (oX ln c):=by iterate 4 cases r<;>rfl'
end MP.Lake
namespace Cz
theorem n3:Nonempty MP.Lake.St:=⟨⟨[],[],none⟩⟩
theorem n4:Nonempty MP.Lake.Fn:=⟨⟨default,default,default⟩⟩
end Cz
set_option backward.match.sparseCases true
namespace MP.Lake
open PySem PyProof.Rows
noncomputable abbrev PM:=Addr->Option Obj
structure Tj where
 a:Addr
 c:Addr
 pos:Pos
 q:Str
theorem mm5:Nonempty Tj:=by iterate 0 exact (⟨⟨default,default,default,default⟩⟩)
structure Cx where
 w:jl
 QZ:Heap
 tabs:List Tj
 UR:Addr
 cls:Addr
 os:kD
theorem mm2:Nonempty Cx:=by iterate 0 exact (Cz.n5.elim fun w=>⟨⟨w,default,[],default,default,default⟩⟩)
noncomputable def Cx.T (J:Cx):List Addr:=J.tabs.map (·.a)
noncomputable def Q8 (F:PM) (a:Addr) (vs:List ag):Prop:=∃ o n,F a=some o/\o.cls= .type "list" /\o.dict=none/\o.data= .seq vs.toArray n
noncomputable def Si (F:PM) (a:Addr) (vs:List ag):Prop:=∃ o n,F a=some o/\o.cls= .type "tuple" /\o.dict=none/\o.data= .seq vs.toArray n
noncomputable def RX:List (Int×ag)->List (Int×Int)->Prop
| [],Qx=>Qx=[]
| (k,v)::r,Qx=>∃ i t r',Qx=(k,i)::r'/\v= .int i t/\RX r r'
noncomputable abbrev IK (J:Cx):PySem.KeyKind ee J.w Int:=intKind ee J.w
noncomputable def TK (J:Cx) (F:PM) (a:Addr) (Qx:List (Int×Int)):Prop:=
 ∃ o ws ep,F a=some o/\(∀ h:Heap,h.get? a=some o->h.DictAt (IK J) a ws ep)/\RX ws Qx
mutual
noncomputable def Rd (J:Cx) (F:PM) (as:List Addr):D->ag->Prop
| .none,v=>v= .none
| .bool b,v=>v= .bool b
| .int i,v=>∃ t,v= .int i t
| .str s,v=>s.length<=lim/\∃ t,v= .str ⟨s.toArray⟩ t
| .tup xs,v=>xs.length<=lim/\∃ a vs,v= .ref a/\Si F a vs/\Qo J F as xs vs
| .lst xs,v=>xs.length<=lim/\∃ a vs,v= .ref a/\Q8 F a vs/\Qo J F as xs vs
| .QC Qx,v=>Qx.length<=lim/\∃ a,v= .ref a/\(a==iB)=false/\TK J F a Qx
| .rng a b,v=>∃ r t u w,v= .ref r/\F r=some {cls:= .type "range",data:= .fields #[.int a t,.int b u,.int 1 w]}
| .loc i,v=>∃ a,v= .ref a/\as[i]? =some a
| .tab,v=>v= .ref J.UR
| .Sk,v=>v= .type "int"
| .raw a,v=>v= .ref a
noncomputable def Qo (J:Cx) (F:PM) (as:List Addr):List D->List ag->Prop
| [],vs=>vs=[]
| d::ds,vs=>∃ v r,vs=v::r/\Rd J F as d v/\Qo J F as ds r
end
noncomputable def PM.le (F F':PM):Prop:=∀ a o,F a=some o->F' a=some o
theorem PM.le.refl:∀ (F:PM),PM.le F F:=by iterate 1 exact (fun _ _ h=>h)
theorem PM.le.trans:∀ {F G ahb:PM} (h:PM.le F G) (k:PM.le G ahb),PM.le F ahb:=by iterate 5 exact (fun a o e=>k a o (h a o e))
noncomputable def Pre (as UE:List Addr):Prop:=∀ (i:Nat) (a:Addr),as[i]? =some a->UE[i]? =some a
theorem Pre.refl:∀ (as:List Addr),Pre as as:=by iterate 1 exact (fun _ _ h=>h)
theorem Pre.trans:∀ {a b c:List Addr} (h:Pre a b) (k:Pre b c),Pre a c:=by iterate 5 exact (fun i x e=>k i x (h i x e))
theorem Q8.mono {F F':PM} (h:PM.le F F') {a vs} (x:Q8 F a vs):Q8 F' a vs:=by obtain ⟨o,n,e,r⟩:=x;exact ⟨o,n,h _ _ e,r⟩
theorem Si.mono {F F':PM} (h:PM.le F F') {a vs} (x:Si F a vs):Si F' a vs:=by obtain ⟨o,n,e,r⟩:=x;exact ⟨o,n,h _ _ e,r⟩
theorem TK.mono {J:Cx} {F F':PM} (h:PM.le F F') {a Qx} (x:TK J F a Qx):TK J F' a Qx:=by obtain ⟨o,ws,ep,e,r⟩:=x;exact ⟨o,ws,ep,h _ _ e,r⟩
mutual
theorem Rd.mono {J:Cx} {F F':PM} {as UE:List Addr} (h:PM.le F F') (k:Pre as UE):∀ {d:D} {v:ag},Rd J F as d v->Rd J F' UE d v
 | .none,_,x=>by exact x
 | .bool _,_,x=>by exact x
 | .int _,_,x=>by exact x
 | .str _,_,x=>by exact x
 | .tup xs,v,x=>by dsimp only [Rd] at x ⊢;obtain ⟨hl,a,vs,e,p,r⟩:=x;exact ⟨hl,a,vs,e,p.mono h,Qo.mono h k r⟩
 | .lst xs,v,x=>by dsimp only [Rd] at x ⊢;obtain ⟨hl,a,vs,e,p,r⟩:=x;exact ⟨hl,a,vs,e,p.mono h,Qo.mono h k r⟩
 | .QC Qx,v,x=>by dsimp only [Rd] at x ⊢;obtain ⟨hl,a,e,n,p⟩:=x;exact ⟨hl,a,e,n,p.mono h⟩
 | .rng a b,v,x=>by dsimp only [Rd] at x ⊢;obtain ⟨r,t,u,w,e,p⟩:=x;exact ⟨r,t,u,w,e,h _ _ p⟩
 | .loc i,v,x=>by dsimp only [Rd] at x ⊢;obtain ⟨a,e,p⟩:=x;exact ⟨a,e,k _ _ p⟩
 | .tab,_,x=>by exact x
 | .Sk,_,x=>by exact x
 | .raw _,_,x=>by exact x
theorem Qo.mono {J:Cx} {F F':PM} {as UE:List Addr} (h:PM.le F F') (k:Pre as UE):∀ {ds:List D} {vs:List ag},Qo J F as ds vs->Qo J F' UE ds vs
 | [],_,x=>by exact x
 | d::ds,vs,x=>by dsimp only [Qo] at x ⊢;obtain ⟨v,r,e,p,q⟩:=x;exact ⟨v,r,e,Rd.mono h k p,Qo.mono h k q⟩
end
theorem Qo.length {J:Cx} {F:PM} {as:List Addr}:∀ {ds:List D} {vs:List ag},Qo J F as ds vs->vs.length=ds.length
 | [],_,x=>by dsimp only [Qo] at x;simp [x]
 | d::ds,vs,x=>by dsimp only [Qo] at x;obtain ⟨v,r,rfl,_,q⟩:=x;simp [Qo.length q]
theorem Qo.get:∀ {J:Cx} {F:PM} {as:List Addr},∀ {ds:List D} {vs:List ag},Qo J F as ds vs->∀ {i:Nat} {d:D},ds[i]? =some d->∃ v,vs[i]? =some v/\Rd J F as d v:=by iterate 3
 intro ds;induction ds with
 | nil=>intro _ _ i d e;simp at e
 | cons d ds Qj=>intro vs x i d' e;dsimp only [Qo] at x;obtain ⟨v,r,rfl,p,q⟩:=x;cases i with | zero=>simp at e;subst e;exact ⟨v,by simp,p⟩ | succ i=>simp at e;obtain ⟨v',h1,h2⟩:=Qj q e;exact ⟨v',by simpa using h1,h2⟩
theorem Qo.append:∀ {J:Cx} {F:PM} {as:List Addr},∀ {ds Ra:List D} {vs SP:List ag},Qo J F as ds vs->Qo J F as Ra SP->Qo J F as (ds++Ra) (vs++SP):=by iterate 3 intro ds;induction ds with | nil=>intro _ _ _ x y;dsimp only [Qo] at x;subst x;simpa using y | cons d ds Qj=>intro _ _ _ x y;dsimp only [Qo] at x;obtain ⟨v,r,rfl,p,q⟩:=x;dsimp only [bc,Qo];exact ⟨v,_,rfl,p,Qj q y⟩
theorem Qo.one:∀ {J:Cx} {F:PM} {as:List Addr} {d:D} {v:ag} (h:Rd J F as d v),Qo J F as [d] [v]:=by iterate 6 dsimp only [Qo];exact ⟨v,[],rfl,h,rfl⟩
theorem Qo.of_get:∀ {J:Cx} {F:PM} {as:List Addr},∀ {ds:List D} {vs:List ag},vs.length=ds.length->(∀ (i:Nat) (d:D) (v:ag),ds[i]? =some d->vs[i]? =some v->Rd J F as d v)->Qo J F as ds vs:=by iterate 3
 intro ds;induction ds with
 | nil=>intro vs h _;dsimp only [Qo];exact eS h
 | cons d ds Qj=>intro vs h k;cases vs with | nil=>simp at h | cons v vs=>dsimp only [Qo];exact ⟨v,vs,rfl,k 0 d v rfl rfl,Qj (by simpa using h) fun i d v a b=>k (i+1) d v (by simpa using a) (by simpa using b)⟩
noncomputable def Ud (F:PM) (a:Addr) (m:Str->Option ag):Prop:=∃ o es ep,F a=some o/\o.data= .dict es ep/\StrKeys es/\∀ name,nsFind es name=m name
noncomputable def V7 (F:PM) (a:Addr) (m:Str->Option ag):Prop:=∃ o es ep,F a=some o/\o.data= .dict es ep/\StrKeys es/\UniqKeys es/\∀ name,nsFind es name=m name
theorem V7.mono {F F':PM} (h:PM.le F F') {a m} (x:V7 F a m):V7 F' a m:=by obtain ⟨o,es,ep,e,r⟩:=x;exact ⟨o,es,ep,h _ _ e,r⟩
noncomputable def Kf (a:dD) (b:Expr) (sc:aX) (c:Addr) (pm cd ct:ag):eO:=
 {name:="<lambda>",qualname:="_law_lexer.<locals>.<lambda>",params:=a,body:= .expr b,scope:=sc,globals:=bC,closure:=[("signs",c)],defaults:= .none,kwdefaults:= .none,
  pyModule:=pm,code:=cd,closureTuple:=ct,builtins:=bU}
noncomputable def TL (F:PM) (fn c:Addr):Prop:=∃ XY a b sc pos o pm cd ct c' oc vs t,o8 ee "_law_lexer" =some XY/\Kc XY.body=some (a,b,sc,pos)/\
 F fn=some o/\o.data= .func (Kf a b sc c pm cd ct)/\cd= .ref c'/\F c'=some oc/\oc.data= .fields vs/\vs[1]? =some (.str "_law_lexer.<locals>.<lambda>" t)
noncomputable def NZ (c:Nat) (v:ag):Prop:=∃ t,v= .str ⟨#[c]⟩ t
noncomputable def xw:List Nat->List ag->Prop
| [],vs=>vs=[]
| c::cs,vs=>∃ v r,vs=v::r/\NZ c v/\xw cs r
noncomputable def tN (ln:ag) (iv ws:ag) (pA:Addr):Str->Option ag:=fun x=>
 if x="lineno" then some ln else if x="instream" then some iv else if x="whitespace" then some ws else if x="pushback" then some (.ref pA) else none
noncomputable def Kg (fn:Addr) (r:Str->Option ag):Str->Option ag:=fun x=>if x="read" then some (.ref fn) else r x
noncomputable def Sj (J:Cx) (F:PM) (a d:Addr):Prop:=∃ ob,F a=some ob/\ob.cls= .ref J.cls/\ob.dict=some d/\∀ c:mv,ob.data≠ .cls c
theorem Sj.mono {J:Cx} {F F':PM} (h:PM.le F F') {a d} (x:Sj J F a d):Sj J F' a d:=by obtain ⟨o,e,r⟩:=x;exact ⟨o,h _ _ e,r⟩
noncomputable def SrcAt (J:Cx) (F:PM) (as:List Addr) (iv:ag):Option Nat->Prop
| none=>iv= .none
| some j=>∃ st dS fn c sA r o,iv= .ref st/\Sj J F st dS/\dS≠st/\V7 F dS (Kg fn r)/\TL F fn c/\F c=some o/\o.data= .cell (some (.ref sA))/\as[j]? =some sA
noncomputable def RF (J:Cx) (F:PM) (as:List Addr) (h:Heap):MO->Addr->List Addr->Prop
| .lex ln src pb,a,fp=>pb.length<=lim/\∃ dA pA iv t u vs,Sj J F a dA/\
   h.Ns1 dA (tN (.int ln t) iv (.str "\n\t\r " u) pA)/\bS h pA vs/\Qo J F as pb vs.toList/\fp=[dA,pA]/\SrcAt J F as iv src
| .sg cs,a,fp=>cs.length<=lim/\fp=[a]/\∃ ss,bS h a ss/\xw cs ss.toList
| .Qu rows,a,fp=>rows.length<=lim/\∃ vs rs,bS h a vs/\vs.toList=rs.map ef/\fp=a::rs/\rs.length=rows.length/\
   ∀ (i:Nat) ds r,rows[i]? =some ds->rs[i]? =some r->ds.length<=lim/\∃ ws,bS h r ws/\Qo J F as ds ws.toList
structure Wd where
 F:PM
 H:List MO
 as:List Addr
 QF:List (List Addr)
theorem mm1:Nonempty Wd:=by iterate 0 exact (⟨⟨fun _=>none,[],[],[]⟩⟩)
noncomputable def tO (vs:Array ag):Obj:={cls:= .none,data:= .fields vs}
noncomputable def Ur (F:PM) (h:Heap) (T:Tj):Prop:=
 h.get? T.a=some (tO #[])\/∃ c' oc vs t,h.get? T.a=some (tO (#[]++#[m4 T.pos.line,m4 T.pos.col,.ref c']))/\F c'=some oc/\oc.data= .fields vs/\vs[1]? =some (.str T.q t)
structure Qn (J:Cx) (W:Wd) (s:ah):Prop where
 sub:∀ a o,W.F a=some o->s.heap.get? a=some o
 base:∀ a o,a∉J.T->J.QZ.get? a=some o->W.F a=some o
 Ry:∀ a∈J.T,W.F a=none
 low:∀ a o,J.QZ.get? a=some o->∃ o',s.heap.get? a=some o'
 tab:∀ T∈J.tabs,Ur W.F s.heap T
 Q9:W.as.length=W.H.length
 Rh:W.QF.length=W.H.length
 obj:∀ (i:Nat) mo a fp,W.H[i]? =some mo->W.as[i]? =some a->W.QF[i]? =some fp->RF J W.F W.as s.heap mo a fp
 nodup:W.QF.flatten.Nodup
 RD:∀ a∈W.QF.flatten,W.F a=none/\a∉J.T/\∃ o,s.heap.get? a=some o
 bare:ij s.gens
 os:s.os=J.os
structure Qk (J:Cx) (X:List Addr) (W:Wd) (s:ah) (W':Wd) (s':ah):Prop where
 ok:Qn J W' s'
 le:PM.le W.F W'.F
 fresh:∀ a o,W'.F a=some o->W.F a=some o\/s.heap.get? a=none
 keep:∀ a o,a∉J.T->a∉W.QF.flatten->a∉X->s.heap.get? a=some o->s'.heap.get? a=some o
 there:∀ a o,s.heap.get? a=some o->∃ o',s'.heap.get? a=some o'
 as:Pre W.as W'.as
 QF:∀ a∈W'.QF.flatten,a∈W.QF.flatten\/s.heap.get? a=none
 gens:∀ (i:Nat) (g:di),s.gens[i]? =some g->s'.gens[i]? =some g
theorem Qk.refl:∀ {J:Cx} {X:List Addr} {W:Wd} {s:ah} (h:Qn J W s),Qk J X W s W s:=by iterate 5 exact (⟨h,PM.le.refl _,fun _ _ e=> .inl e,fun _ _ _ _ _ e=>e,fun _ o e=>⟨o,e⟩,Pre.refl _,fun _ e=> .inl e,fun _ _ e=>e⟩)
theorem Qk.Qt:∀ {J:Cx} {X:List Addr} {W W1:Wd} {s s1:ah} {a:Addr} (h:Qk J X W s W1 s1) (e:s1.heap.get? a=none),s.heap.get? a=none:=by iterate 9 cases q:s.heap.get? a with | none=>rfl | some o=>obtain ⟨o',h'⟩:=h.there a o q;rw [e] at h';cases h'
theorem Qk.trans:∀ {J:Cx} {X Y:List Addr} {W W1 W2:Wd} {s s1 s2:ah} (h:Qk J X W s W1 s1) (k:Qk J Y W1 s1 W2 s2) (hY:∀ a∈Y,a∈X\/s.heap.get? a=none),Qk J X W s W2 s2:=by iterate 12
 exact {
  ok:=k.ok
  le:=h.le.trans k.le
  fresh a o e:=by
   rcases k.fresh a o e with e | e
   ·exact h.fresh a o e
   ·exact .inr (h.Qt e)
  keep a o hT hf hX e:=by
   refine k.keep a o hT (fun hm=>?_) (fun hm=>?_) (h.keep a o hT hf hX e)
   ·rcases h.QF a hm with h' | h'
    ·exact hf h'
    ·rw [e] at h';cases h'
   ·rcases hY a hm with h' | h'
    ·exact hX h'
    ·rw [e] at h';cases h'
  there a o e:=by obtain ⟨o',e'⟩:=h.there a o e;exact k.there a o' e'
  as:=h.as.trans k.as
  QF a ha:=by
   rcases k.QF a ha with h' | h'
   ·exact h.QF a h'
   ·exact .inr (h.Qt h')
  gens i g e:=k.gens i g (h.gens i g e)}
theorem Qk.weaken:∀ {J:Cx} {X Y:List Addr} {W W1:Wd} {s s1:ah} (h:Qk J X W s W1 s1) (hY:∀ a∈X,a∈Y\/s.heap.get? a=none),Qk J Y W s W1 s1:=by iterate 9
 exact {
  ok:=h.ok
  le:=h.le
  fresh:=h.fresh
  keep a o hT hf hX e:=h.keep a o hT hf (fun hm=>by
   rcases hY a hm with h' | h'
   ·exact hX h'
   ·rw [e] at h';cases h') e
  there:=h.there
  as:=h.as
  QF:=h.QF
  gens:=h.gens}
theorem bS.keep:∀ {h h':Heap} {a:Addr} {vs:Array ag} (x:bS h a vs) (k:∀ o,h.get? a=some o->h'.get? a=some o),bS h' a vs:=by iterate 6 obtain ⟨o,n,e,r⟩:=x;exact ⟨o,n,k _ e,r⟩
theorem Ns.keep {h h':Heap} {a:Addr} {m} (x:h.Ns a m) (k:∀ o,h.get? a=some o->h'.get? a=some o):h'.Ns a m:=by obtain ⟨o,es,ep,e,r⟩:=x;exact ⟨o,es,ep,k _ e,r⟩
theorem Ns1.keep {h h':Heap} {a:Addr} {m} (x:h.Ns1 a m) (k:∀ o,h.get? a=some o->h'.get? a=some o):h'.Ns1 a m:=by obtain ⟨o,es,ep,e,r⟩:=x;exact ⟨o,es,ep,k _ e,r⟩
theorem TL.mono:∀ {F F':PM} {fn c:Addr} (h:PM.le F F') (x:TL F fn c),TL F' fn c:=by iterate 6 obtain ⟨XY,a,b,sc,pos,o,pm,cd,ct,c',oc,vs,t,h1,h2,h3,h4,h5,h6,h7,h8⟩:=x;exact ⟨XY,a,b,sc,pos,o,pm,cd,ct,c',oc,vs,t,h1,h2,h _ _ h3,h4,h5,h _ _ h6,h7,h8⟩
theorem SrcAt.mono:∀ {J:Cx} {F F':PM} {as UE:List Addr} {iv:ag} {src:Option Nat} (hF:PM.le F F') (hA:Pre as UE) (x:SrcAt J F as iv src),SrcAt J F' UE iv src:=by iterate 10 cases src with | none=>exact x | some j=>obtain ⟨st,dS,fn,c,sA,r,o,f1,f2,f0,f3,f4,f5,f6,f7⟩:=x;exact ⟨st,dS,fn,c,sA,r,o,f1,f2.mono hF,f0,f3.mono hF,f4.mono hF,hF _ _ f5,f6,hA _ _ f7⟩
theorem RF.keep:∀ {J:Cx} {F F':PM} {as UE:List Addr} {h h':Heap} {mo:MO} {a:Addr} {fp:List Addr} (x:RF J F as h mo a fp) (hF:PM.le F F') (hA:Pre as UE) (k:∀ b∈fp,∀ o,h.get? b=some o->h'.get? b=some o),RF J F' UE h' mo a fp:=by iterate 14
 cases mo with
 | lex ln src pb=>
  obtain ⟨hl,dA,pA,iv,t,u,vs,e1,e4,e5,e6,e7,e8⟩:=x;have hd:dA∈fp:=by rw [e7];simp
  have hp:pA∈fp:=by rw [e7];simp
  exact ⟨hl,dA,pA,iv,t,u,vs,e1.mono hF,Ns1.keep e4 (k _ hd),bS.keep e5 (k _ hp),e6.mono hF hA,e7,e8.mono hF hA⟩
 | sg cs=>obtain ⟨hl,e1,ss,e2,e3⟩:=x;exact ⟨hl,e1,ss,bS.keep e2 (k _ (by rw [e1];simp)),e3⟩
 | Qu rows=>dsimp only [RF] at x ⊢;obtain ⟨hl,vs,rs,e1,e2,e3,e4,e5⟩:=x;refine ⟨hl,vs,rs,bS.keep e1 (k _ (by rw [e3];simp)),e2,e3,e4,fun i ds r hi hr=>?_⟩;obtain ⟨h1,ws,h2,h3⟩:=e5 i ds r hi hr;exact ⟨h1,ws,bS.keep h2 (k _ (by rw [e3];exact av _ (bL hr))),h3.mono hF hA⟩
theorem RF.lt:∀ {J:Cx} {F:PM} {as:List Addr} {h:Heap} {mo:MO} {a:Addr} {fp:List Addr} (x:RF J F as h mo a fp),∀ b∈fp,∃ o,h.get? b=some o:=by iterate 8
 cases mo with
 | lex ln src pb=>
  obtain ⟨hl,dA,pA,iv,t,u,vs,e1,⟨o,_,_,e2,_⟩,⟨op,np,e5,_⟩,e6,e7,e8⟩:=x;subst e7;intro b hb;rcases aq.mp hb with rfl | hb
  ·exact ⟨_,e2⟩
  rcases aq.mp hb with rfl | hb
  ·exact ⟨_,e5⟩
  ·simp at hb
 | sg cs=>obtain ⟨hl,rfl,ss,⟨o,n,e2,_⟩,e3⟩:=x;intro b hb;simp at hb;subst hb;exact ⟨_,e2⟩
 | Qu rows=>
  dsimp only [RF] at x;obtain ⟨hl,vs,rs,⟨o,n,e1,_⟩,e2,e3,e4,e5⟩:=x;subst e3;intro b hb;rcases aq.mp hb with rfl | hb
  ·exact ⟨_,e1⟩
  ·obtain ⟨i,hi,rfl⟩:=kX.mp hb;have:i<rows.length:=by omega
   obtain ⟨_,ws,⟨o,n,h2,_⟩,_⟩:=e5 i rows[i] rs[i] (by simp) (by simp);exact ⟨_,h2⟩
theorem Ur.keep:∀ {F F':PM} {h h':Heap} {T:Tj} (x:Ur F h T) (hF:PM.le F F') (k:∀ o,h.get? T.a=some o->h'.get? T.a=some o),Ur F' h' T:=by iterate 8
 rcases x with h3 | ⟨c',oc,vs,t,h3,h4,h5,h6⟩
 ·exact .inl (k _ h3)
 ·exact .inr ⟨c',oc,vs,t,k _ h3,hF _ _ h4,h5,h6⟩
theorem qK:∀ {W:Wd} {i:Nat} {fp:List Addr} {a:Addr} (h:W.QF[i]? =some fp) (ha:a∈fp),a∈W.QF.flatten:=by iterate 6 exact (gJ.mpr ⟨fp,bL h,ha⟩)
theorem Qk.grow:∀ {J:Cx} {X:List Addr} {W:Wd} {s s':ah} (h:Qn J W s) (k:∀ a o,a∉X->s.heap.get? a=some o->s'.heap.get? a=some o) (hs:∀ a o,s.heap.get? a=some o->∃ o',s'.heap.get? a=some o') (hX:∀ a∈X,W.F a=none/\a∉J.T/\a∉W.QF.flatten) (hg:s'.gens=s.gens) (ho:s'.os=s.os),Qk J X W s W s':=by iterate 11
 exact {
  ok:={
   sub:=fun a o e=>k a o (fun hm=>by rw [(hX a hm).1] at e;cases e) (h.sub a o e)
   base:=h.base
   Ry:=h.Ry
   low:=fun a o e=>(by obtain ⟨o',e'⟩:=h.low a o e;exact hs a o' e')
   tab:=fun T hT=>(h.tab T hT).keep (PM.le.refl _) fun o e=>k _ o (fun hm=>(hX _ hm).2.1 (cM hT)) e
   Q9:=h.Q9
   Rh:=h.Rh
   obj:=fun i mo a fp h1 h2 h3=>(h.obj i mo a fp h1 h2 h3).keep (PM.le.refl _) (Pre.refl _) fun b hb o e=>k b o (fun hm=>(hX _ hm).2.2 (qK h3 hb)) e
   nodup:=h.nodup
   RD:=fun a ha=>⟨(h.RD a ha).1,(h.RD a ha).2.1,(by obtain ⟨o,e⟩:=(h.RD a ha).2.2;exact hs a o e)⟩
   bare:=hg▸h.bare
   os:=ho.trans h.os}
  le:=PM.le.refl _
  fresh:=fun _ _ e=> .inl e
  keep:=fun a o _ _ hx e=>k a o hx e
  there:=hs
  as:=Pre.refl _
  QF:=fun _ e=> .inl e
  gens:=fun i g e=>by rw [hg];exact e}
noncomputable def Wd.Q3 (W:Wd) (a:Addr) (o:Obj):Wd:={W with F:=fun b=>if b=a then some o else W.F b}
theorem Qk.Q3:∀ {J:Cx} {X:List Addr} {W W':Wd} {s s':ah} (h:Qk J X W s W' s') {a:Addr} {o:Obj} (e:s'.heap.get? a=some o) (hn:s.heap.get? a=none) (hT:a∉J.T) (hf:a∉W'.QF.flatten),Qk J X W s (W'.Q3 a o) s':=by iterate 13
 exact {
  ok:=by
   have le:PM.le W'.F (W'.Q3 a o).F:=fun b ob eb=>by
    show (if b=a then some o else W'.F b)=some ob;by_cases hb:b=a
    ·subst hb;rw [if_pos rfl,<-e];exact h.ok.sub _ _ eb
    ·rw [if_neg hb];exact eb
   exact {
    sub:=fun b ob eb=>by
     have TH:(if b=a then some o else W'.F b)=some ob:=eb;by_cases hb:b=a
     ·subst hb;rw [if_pos rfl] at TH;cases TH;exact e
     ·rw [if_neg hb] at TH;exact h.ok.sub _ _ TH
    base:=fun b ob h1 h2=>le _ _ (h.ok.base b ob h1 h2)
    Ry:=fun b hb=>by show (if b=a then some o else W'.F b)=none;rw [if_neg (fun (q:b=a)=>hT (by rw [<-q];exact hb))];exact h.ok.Ry b hb
    low:=h.ok.low
    tab:=fun T hT=>(h.ok.tab T hT).keep le fun _ e=>e
    Q9:=h.ok.Q9
    Rh:=h.ok.Rh
    obj:=fun i mo a fp h1 h2 h3=>(h.ok.obj i mo a fp h1 h2 h3).keep le (Pre.refl _) fun _ _ _ e=>e
    nodup:=h.ok.nodup
    RD:=fun b hb=>⟨by show (if b=a then some o else W'.F b)=none;rw [if_neg (fun (q:b=a)=>hf (by rw [<-q];exact hb))];exact (h.ok.RD b hb).1,(h.ok.RD b hb).2⟩
    bare:=h.ok.bare
    os:=h.ok.os}
  le:=h.le.trans fun b ob eb=>by
    show (if b=a then some o else W'.F b)=some ob;by_cases hb:b=a
    ·subst hb;rw [if_pos rfl,<-e];exact h.ok.sub _ _ eb
    ·rw [if_neg hb];exact eb
  fresh:=fun b ob eb=>by
   have TH:(if b=a then some o else W'.F b)=some ob:=eb;by_cases hb:b=a
   ·subst hb;exact .inr hn
   ·rw [if_neg hb] at TH;exact h.fresh _ _ TH
  keep:=h.keep
  there:=h.there
  as:=h.as
  QF:=h.QF
  gens:=h.gens}
theorem oN:∀ (W:Wd) (a:Addr) (o:Obj),(W.Q3 a o).F a=some o:=by iterate 3 exact (if_pos rfl)
noncomputable abbrev P0:bY:=ee
noncomputable def Ex {α:Type} (J:Cx) (A:bf) (t:Sem α) (X:List Addr) (W:Wd) (s:ah) (P:α->Wd->ah->Prop):Prop:=
 aD (aC P0 J.w) A t (fun a s'=>∃ W',Qk J X W s W' s'/\P a W' s') (fun _ _=>False) s
noncomputable def Qs (n:Nat) (A:bf):Prop:=A.handled=none/\A.depth+n+60<cw/\A.units+8 * n+400<mj
theorem Qs.le:∀ {n m:Nat} {A:bf} (h:Qs n A) (k:m<=n),Qs m A:=by iterate 5 exact (⟨h.1,by have:=h.2.1;omega,by have:=h.2.2;omega⟩)
section
variable {α β:Type} {J:Cx} {A:bf} {X:List Addr} {W:Wd} {s:ah}
theorem Ex.into:∀ {t:Sem α} {P:α->Wd->ah->Prop} {Q:α->ah->Prop} {E:ag->ah->Prop} (h:Ex J A t X W s P) (k:∀ a W1 s1,Qk J X W s W1 s1->P a W1 s1->Q a s1),aD (aC P0 J.w) A t Q E s:=by iterate 6 exact (af h (fun a s1 z0=>by obtain ⟨W1,k1,p⟩:=z0;exact k a W1 s1 k1 p) fun _ _ f=>f.elim)
theorem Qk.Qi:∀ {W1 W2:Wd} {s1 s2:ah} (h:Qk J X W s W1 s1) (k:Qk J [] W1 s1 W2 s2),Qk J X W s W2 s2:=by iterate 6 exact (h.trans k (by simp))
theorem Qk.RL:∀ {W1 W2:Wd} {s1 s2:ah} (h:Qk J X W s W1 s1) (k:Qk J X W1 s1 W2 s2),Qk J X W s W2 s2:=by iterate 6 exact (h.trans k (fun _ h=> .inl h))
theorem Qk.Sr:∀ {W1 W2:Wd} {s1 s2:ah} (h:Qk J [] W s W1 s1) (k:Qk J X W1 s1 W2 s2),Qk J X W s W2 s2:=by iterate 6 exact ((h.weaken (by simp)).RL k)
theorem Qk.toks:∀ {tk:Nat} (h:Qn J W s),Qk J X W s W {s with toks:=tk}:=by iterate 2 exact ((Qk.grow (X:=[]) (s':={s with toks:=tk}) h (fun _ _ _ e=>e) (fun _ o e=>⟨o,e⟩) (by simp) rfl rfl).weaken (by simp))
theorem Qk.push:∀ {tk:Nat} (h:Qn J W s) (o:Obj),Qk J X W s W {s with heap:=s.heap.push o,toks:=tk}:=by iterate 3 exact ((Qk.grow (X:=[]) (s':={s with heap:=s.heap.push o,toks:=tk}) h (fun _ _ _ e=>aF _ e) (fun _ o' e=>⟨o',aF _ e⟩) (by simp) rfl rfl).weaken (by simp))
theorem bn:∀ (h:Heap),h.get? h.objs.size=none:=by iterate 1 cases e:h.get? h.objs.size with | none=>rfl | some o=>exact absurd (dK e) (kE _)
theorem Qn.QL:∀ {a:Addr} (h:Qn J W s) (ha:s.heap.get? a=none),W.F a=none/\a∉J.T/\a∉W.QF.flatten:=by iterate 3
 refine ⟨?_,fun hm=>?_,fun hm=>?_⟩
 ·cases e:W.F a with | none=>rfl | some o=>have:=h.sub a o e;rw [ha] at this;cases this
 ·obtain ⟨T,hT,rfl⟩:=aH.mp hm;have h3:=h.tab T hT;rcases h3 with h3 | ⟨_,_,_,_,h3,_⟩<;>(rw [ha] at h3;cases h3)
 ·obtain ⟨o,e⟩:=(h.RD a hm).2.2;rw [ha] at e;cases e
theorem Qk.Tq:∀ {tk:Nat} (h:Qn J W s) (o:Obj) (hf:o.isFreed=false:=by rfl),Qk J X W s (W.Q3 s.heap.objs.size o) {s with heap:=s.heap.push o,toks:=tk}:=by iterate 4
 exact (let n:=h.QL (bn _)
 Qk.Q3 (Qk.push h o) (ax _ hf) (bn _) n.2.1 n.2.2)
theorem Q8.isList:∀ {F:PM} {a:Addr} {vs:List ag} (x:Q8 F a vs) (h:∀ b o,F b=some o->s.heap.get? b=some o),s.heap.IsList a vs.toArray:=by iterate 5 obtain ⟨o,n,e,c,_,d⟩:=x;exact ⟨o,h _ _ e,c,n,d⟩
theorem Si.Ul:∀ {F:PM} {a:Addr} {vs:List ag} (x:Si F a vs) (h:∀ b o,F b=some o->s.heap.get? b=some o),s.heap.IsTuple a vs.toArray:=by iterate 5 obtain ⟨o,n,e,c,_,d⟩:=x;exact ⟨o,h _ _ e,c,n,d⟩
theorem Q8.of:∀ {F:PM} {a:Addr} {vs:List ag} {n:Nat} (h:F a=some {cls:= .type "list",data:= .seq vs.toArray n}),Q8 F a vs:=by iterate 5 exact (⟨_,n,h,rfl,rfl,rfl⟩)
theorem Si.of:∀ {F:PM} {a:Addr} {vs:List ag} {n:Nat} (h:F a=some {cls:= .type "tuple",data:= .seq vs.toArray n}),Si F a vs:=by iterate 5 exact (⟨_,n,h,rfl,rfl,rfl⟩)
theorem pe:lim<=dw:=by iterate 0 decide
end
section
variable {J:Cx} {A:bf} {W:Wd} {s:ah} {X:List Addr}
noncomputable abbrev CV (J:Cx) (H:G) (d:D) (v:ag) (W:Wd) (s:ah):Prop:=W.H=H/\Rd J W.F W.as d v
theorem vA:∀ {a:Int} (h:lw a=true),a.natAbs<2 ^ 64:=by iterate 2 have:=of_decide_eq_true h;omega
theorem w8:∀ {a:Int} (h:lw a=true),gL a<=64:=by iterate 2 have:=vA h;exact intBits_le_64 (by omega) (by omega)
theorem xh:∀ {a b:Int} (h:lw b=true),iQ a b=false:=by iterate 3
 have h1:=vA h;unfold iQ;have h2:b.natAbs.log2<64:=by
  by_cases z:b.natAbs=0
  ·rw [z];decide
  ·exact (iz z).mpr h1
 have:¬ ((if (b==0)=true then 0 else b.natAbs.log2 / 30+1) > 300):=by split<;>omega
 simp only [this,decide_false,j2]
theorem BK:∀ {a:Int} (h:0<=a),ju a 1=a.fmod 2:=by iterate 2 rw [bitAnd_pp h (by decide)];have:(1:Int).toNat=1:=rfl;rw [this,Nat.and_one_is_mod,aU _ (by decide)];omega
theorem DB:∀ (a:Int),lY a= -a-1:=by iterate 1 simp [lY]
theorem nw:∀ {i:Int} {t tk:Nat} (hw:Qn J W s),∃ W',Qk J X W s W' {s with toks:=tk}/\CV J W.H (.int i) (.int i t) W' {s with toks:=tk}:=by iterate 4 exact (⟨W,Qk.toks hw,rfl,by dsimp only [Rd];exact ⟨_,rfl⟩⟩)
theorem uk:∀ {x:List Nat} {t tk:Nat} (hw:Qn J W s) (hl:x.length<=lim),∃ W',Qk J X W s W' {s with toks:=tk}/\CV J W.H (.str x) (.str ⟨x.toArray⟩ t) W' {s with toks:=tk}:=by iterate 5 exact (⟨W,Qk.toks hw,rfl,by dsimp only [Rd];exact ⟨hl,_,rfl⟩⟩)
theorem pd:∀ {b:Bool} (hw:Qn J W s),∃ W',Qk J X W s W' s/\CV J W.H (.bool b) (.bool b) W' s:=by iterate 2 exact (⟨W,Qk.refl hw,rfl,by dsimp only [Rd]⟩)
theorem y8:∀ {b:Bool} {tk:Nat} (hw:Qn J W s),∃ W',Qk J X W s W' {s with toks:=tk}/\CV J W.H (.bool b) (.bool b) W' {s with toks:=tk}:=by iterate 3 exact (⟨W,Qk.toks hw,rfl,by dsimp only [Rd]⟩)
theorem sw:∀ {ds:List D} {vs:List ag} {ar:Array ag} {tk:Nat} (hw:Qn J W s) (r:Qo J W.F W.as ds vs) (hl:ds.length<=lim) (e:ar=vs.toArray),∃ W',Qk J X W s W' {s with heap:=s.heap.push {cls:= .type "list",data:= .seq ar},toks:=tk}/\CV J W.H (.lst ds) (.ref s.heap.objs.size) W' {s with heap:=s.heap.push {cls:= .type "list",data:= .seq ar},toks:=tk}:=by iterate 8 subst e;have k:=Qk.Tq (X:=X) (tk:=tk) hw {cls:= .type "list",data:= .seq vs.toArray};refine ⟨_,k,rfl,?_⟩;dsimp only [Rd];exact ⟨hl,_,vs,rfl,Q8.of (n:=0) (oN ..),r.mono k.le (Pre.refl _)⟩
theorem CP:∀ {ds:List D} {vs:List ag} {ar:Array ag} {tk:Nat} (hw:Qn J W s) (r:Qo J W.F W.as ds vs) (hl:ds.length<=lim) (e:ar=vs.toArray),∃ W',Qk J X W s W' {s with heap:=s.heap.push {cls:= .type "tuple",data:= .seq ar},toks:=tk}/\CV J W.H (.tup ds) (.ref s.heap.objs.size) W' {s with heap:=s.heap.push {cls:= .type "tuple",data:= .seq ar},toks:=tk}:=by iterate 8 subst e;have k:=Qk.Tq (X:=X) (tk:=tk) hw {cls:= .type "tuple",data:= .seq vs.toArray};refine ⟨_,k,rfl,?_⟩;dsimp only [Rd];exact ⟨hl,_,vs,rfl,Si.of (n:=0) (oN ..),r.mono k.le (Pre.refl _)⟩
theorem io:∀ {F:PM} {as:List Addr} {ds:List D} {v:ag} (h:Rd J F as (.lst ds) v),ds.length<=lim/\∃ a vs n sl,v= .ref a/\F a=some ⟨.type "list",none,.seq vs.toArray n,sl⟩/\Qo J F as ds vs:=by iterate 5 dsimp only [Rd] at h;obtain ⟨h1,a1,vs,rfl,⟨⟨c1,d1,dt1,s1⟩,n1,e1,rfl,rfl,rfl⟩,r1⟩:=h;exact ⟨h1,a1,vs,n1,s1,rfl,e1,r1⟩
theorem qA:∀ {F:PM} {as:List Addr} {ds:List D} {v:ag} (h:Rd J F as (.tup ds) v),ds.length<=lim/\∃ a vs n sl,v= .ref a/\F a=some ⟨.type "tuple",none,.seq vs.toArray n,sl⟩/\Qo J F as ds vs:=by iterate 5 dsimp only [Rd] at h;obtain ⟨h1,a1,vs,rfl,⟨⟨c1,d1,dt1,s1⟩,n1,e1,rfl,rfl,rfl⟩,r1⟩:=h;exact ⟨h1,a1,vs,n1,s1,rfl,e1,r1⟩
theorem xW:∀ {op:iE} {a b d:D} {va vb:ag} (e:binop op a b=some d) (ha:Rd J W.F W.as a va) (hb:Rd J W.F W.as b vb) (hw:Qn J W s),Ex J A (binaryOp op va vb) X W s (CV J W.H d):=by iterate 10
 cases op with
 | Add=>
  cases a with
  | int i=>replace e:=bi e;obtain ⟨j,h1,e⟩:=e;cases be h1;obtain ⟨t,rfl⟩:=ha;obtain ⟨u,rfl⟩:=hb;cases e;exact add_int (nw hw)
  | str x=>
   replace e:=bi e;obtain ⟨y,h1,e⟩:=e;cases oK h1;obtain ⟨_,t,rfl⟩:=ha;obtain ⟨_,u,rfl⟩:=hb;obtain ⟨hl,rfl⟩:=vH e;refine oy (fun t' tk=>?_) ?_
   ·have z:=uk (t:=t') (tk:=tk) (X:=X) hw hl;rw [<-lz] at z;exact z
   ·have:=pe;simp only [du,a7,aw] at *;omega
  | lst x=>
   replace e:=bi e;obtain ⟨y,h1,e⟩:=e;cases ph h1;obtain ⟨h1,a1,vs,n1,s1,rfl,e1,r1⟩:=io ha;obtain ⟨h2,a2,ws,n2,s2,rfl,e2,r2⟩:=io hb;obtain ⟨hl,rfl⟩:=tF e;have g1:=hw.sub _ _ e1;have g2:=hw.sub _ _ e2;refine concat_meets ⟨_,g1,rfl⟩ ⟨_,g2,rfl⟩ noFill_list_add seq_list_add PySem.F.slot_list_add PySem.F.entry_list_add (PySem.F.args_list_add_2 _ _) (list_addW a1 a2 vs.toArray ws.toArray n1 n2 none none s1 s2 ?_) ⟨g1,g2,?_⟩
   ·have:=pe;have l1:=r1.length;have l2:=r2.length;simp only [a7,aw] at *;omega
   ·exact sw (tk:=s.toks) hw (r1.append r2) hl (by simp)
  | _=>cases e
 | Sub=>replace e:=pV e;obtain ⟨i,j,rfl,rfl,e⟩:=e;obtain ⟨t,rfl⟩:=ha;obtain ⟨u,rfl⟩:=hb;cases e;exact sub_int (nw hw)
 | Mult=>
  replace e:=pV e;obtain ⟨i,j,rfl,rfl,e⟩:=e;obtain ⟨t,rfl⟩:=ha;obtain ⟨u,rfl⟩:=hb;split at e
  ·rename_i hs;cases e;refine mul_int (nw hw) ?_;rcases (jD _ _).mp hs with h | h
   ·exact IntMulOk.of_right (w8 h)
   ·exact IntMulOk.of_left (w8 h)
  ·cases e
 | FloorDiv=>
  replace e:=pV e;obtain ⟨i,j,rfl,rfl,e⟩:=e;obtain ⟨t,rfl⟩:=ha;obtain ⟨u,rfl⟩:=hb;split at e
  ·rename_i hs;cases e;exact floordiv_int hs.1 (nw hw) (.inl (xh hs.2))
  ·cases e
 | Mod=>
  replace e:=pV e;obtain ⟨i,j,rfl,rfl,e⟩:=e;obtain ⟨t,rfl⟩:=ha;obtain ⟨u,rfl⟩:=hb;split at e
  ·rename_i hs;cases e;exact mod_int' hs (nw hw)
  ·cases e
 | Pow=>
  replace e:=pV e;obtain ⟨i,j,rfl,rfl,e⟩:=e;obtain ⟨t,rfl⟩:=ha;obtain ⟨u,rfl⟩:=hb;split at e
  ·rename_i hs;cases e;exact pow_int_small hs.1 hs.2.1 (vA hs.2.2) (nw hw)
  ·cases e
 | LShift=>
  replace e:=pV e;obtain ⟨i,j,rfl,rfl,e⟩:=e;obtain ⟨t,rfl⟩:=ha;obtain ⟨u,rfl⟩:=hb;split at e
  ·rename_i hs;cases e;exact lshift_int_small hs.1 hs.2.1 (vA hs.2.2) (nw hw)
  ·cases e
 | RShift=>
  replace e:=pV e;obtain ⟨i,j,rfl,rfl,e⟩:=e;obtain ⟨t,rfl⟩:=ha;obtain ⟨u,rfl⟩:=hb;split at e
  ·rename_i hs;cases e;exact rshift_int hs (nw hw)
  ·cases e
 | BitAnd=>
  replace e:=pV e;obtain ⟨i,j,rfl,rfl,e⟩:=e;obtain ⟨t,rfl⟩:=ha;obtain ⟨u,rfl⟩:=hb;split at e
  ·rename_i hs;obtain ⟨h0,rfl⟩:=hs;cases e;refine and_int ?_;rw [BK h0];exact nw hw
  ·cases e
 | _=>cases e
theorem wQ:∀ {op:iE} {a b d:D} {va vb:ag} (e:inop op a b=some d) (ha:Rd J W.F W.as a va) (hb:Rd J W.F W.as b vb) (hw:Qn J W s),Ex J A (inplaceOp op va vb) X W s (CV J W.H d):=by iterate 10
 cases op with
 | Add=>
  cases a with
  | int i=>replace e:=bi e;obtain ⟨j,h1,e⟩:=e;cases be h1;obtain ⟨t,rfl⟩:=ha;obtain ⟨u,rfl⟩:=hb;cases e;exact wpAny_iadd_int (nw hw)
  | str x=>
   replace e:=bi e;obtain ⟨y,h1,e⟩:=e;cases oK h1;obtain ⟨_,t,rfl⟩:=ha;obtain ⟨_,u,rfl⟩:=hb;obtain ⟨hl,rfl⟩:=vH e;refine oq (fun t' tk=>?_) ?_
   ·have z:=uk (t:=t') (tk:=tk) (X:=X) hw hl;rw [<-lz] at z;exact z
   ·have:=pe;simp only [du,a7,aw] at *;omega
  | _=>cases e
 | Sub=>replace e:=pV e;obtain ⟨i,j,rfl,rfl,e⟩:=e;obtain ⟨t,rfl⟩:=ha;obtain ⟨u,rfl⟩:=hb;cases e;exact isub_int (nw hw)
 | _=>cases e
theorem Il:∀ {op:UnaryOp} {a d:D} {va:ag} (e:NV op a=some d) (ha:Rd J W.F W.as a va) (hw:Qn J W s),Ex J A (unaryOp op va) X W s (CV J W.H d):=by iterate 7 cases op with | USub=>replace e:=bi e;obtain ⟨i,h,e⟩:=e;cases be h;obtain ⟨t,rfl⟩:=ha;cases e;exact jo (nw hw) | Invert=>replace e:=bi e;obtain ⟨i,h,e⟩:=e;cases be h;obtain ⟨t,rfl⟩:=ha;cases e;refine invert_int ?_;rw [DB];exact nw hw | _=>cases e
theorem Dt:∀ (a b:List Nat),((⟨a.toArray⟩:Str)==⟨b.toArray⟩)=(a==b):=by iterate 2 rw [c8];simp
theorem xU:∀ {f:D->D->Option Bool} {as:List D},∀ {bs:List D} {r:Bool},wP f as bs=some r->as.length=bs.length/\∃ e:Nat->Bool,(∀ (i:Nat) a b,as[i]? =some a->bs[i]? =some b->f a b=some (e i))/\r=(aN as.length).all e:=by iterate 2
 induction as with
 | nil=>intro bs r h;obtain ⟨_,h1,h⟩:=bi h;cases oU h1;cases h;exact ⟨rfl,fun _=>true,fun i a b ha=>by simp at ha,rfl⟩
 | cons a as ih=>
  intro bs r h;replace h:=vq h;obtain ⟨⟨b,bs'⟩,h1,x,hx,y,hy,h⟩:=h;cases qr h1;cases h;obtain ⟨hl,e,he,hr⟩:=ih hy;refine ⟨congrArg (· +1) hl,fun i=>match i with | 0=>x | i+1=>e i,fun i a' b' ha hb=>?_,?_⟩
  ·cases i with | zero=>simp at ha hb;subst ha hb;exact hx | succ i=>simp at ha hb;exact he i a' b' ha hb
  ·rw [hr,aI,gO,ez,iV];rfl
noncomputable def Le (A:bf) (s:ah) (u v:ag) (b:Bool):Prop:=SeqAt.RcAt A s u v b/\SeqAt.RcNeAt A s u v (!b)/\oh A s u v b
theorem ES:∀ {A:bf} {k:Nat} (h:A.units+(k+1)<mj),A.in1.units+k<mj:=by iterate 3 show A.units+1+k<mj;omega
theorem rT:∀ {ws:List (Int×ag)} {Qx:List (Int×Int)},RX ws Qx->∀ k:Int,(∀ i,Qx.lookup k=some i->∃ t,kr ws k=some (.int i t))/\(Qx.lookup k=none->kr ws k=none):=by iterate 0
 intro ws;induction ws with
 | nil=>intro _ h k;dsimp only [RX] at h;subst h;simp [kr]
 | cons Rv r Qj=>
  obtain ⟨j,v⟩:=Rv;intro _ h k;dsimp only [RX] at h;obtain ⟨i,t,r',rfl,rfl,h⟩:=h;by_cases e:j=k
  ·subst e;simp [kr,cG]
  ·have z:=Qj h k;have e':(k==j)=false:=by simpa using fun q=>e q.symm
   simp only [cG,e'];have:kr ((j,dZ i t)::r) k=kr r k:=by simp [kr,List.find?,e]
   rw [this];exact z
theorem RX.length:∀ {ws:List (Int×ag)} {Qx:List (Int×Int)},RX ws Qx->ws.length=Qx.length:=by iterate 0 intro ws;induction ws with | nil=>intro _ h;dsimp only [RX] at h;subst h;rfl | cons Rv r Qj=>obtain ⟨j,v⟩:=Rv;intro _ h;dsimp only [RX] at h;obtain ⟨i,t,r',rfl,rfl,h⟩:=h;simp [Qj h]
theorem AA:∀ {A:bf} {wb:List (Int×ag)} {kb:List (Int×Int)} (hb:RX wb kb),∀ {wa:List (Int×ag)} {ka:List (Int×Int)},RX wa ka->PySem.W.KeqHits A s wb wa (ka.all fun p=>kb.lookup p.1==some p.2):=by iterate 4
 intro wa;induction wa with
 | nil=>intro _ h;dsimp only [RX] at h;subst h;exact .nil
 | cons Rv r Qj=>
  obtain ⟨j,v⟩:=Rv;intro _ h;dsimp only [RX] at h;obtain ⟨i,t,r',rfl,rfl,h⟩:=h;have z:=rT hb j;rw [ez];cases e:kb.lookup j with
  | none=>simp only [e];exact .miss (z.2 e)
  | some i'=>
   obtain ⟨t',h'⟩:=z.1 i' e;have q:=mT (A:=A) (s:=s) (k:=j) (r:=r) h' (j5 i t i' t') (Qj h);have:((some i'==some i):Bool)=(i==i'):=by show (i'==i)=(i==i');rw [c8];exact ⟨fun h=>by rw [eq_of_beq h];exact beq_self_eq_true _,fun h=>by rw [eq_of_beq h];exact beq_self_eq_true _⟩
   simp only [e,this];exact q
theorem TK.dictOf:∀ {F:PM} {a:Addr} {Qx:List (Int×Int)} (h:TK J F a Qx) (hs:∀ b o,F b=some o->s.heap.get? b=some o),∃ ws,s.heap.DictOf (IK J) a ws/\RX ws Qx:=by iterate 5 obtain ⟨o,ws,ep,e,p,k⟩:=h;obtain ⟨o',es,h1,h2,h3,h4,h5,h6⟩:=p s.heap (hs _ _ e);exact ⟨ws,⟨o',es,ep,h1,h2,h3,h4,h5,h6⟩,k⟩
end
theorem xn:∀ {J:Cx} {F:PM} {as:List Addr},∀ (k:Nat) {a b:D} {v:ag} {r:Bool},rj k a b=some r->Rd J F as a v->Rd J F as b v->r=true:=by iterate 3
 intro k;induction k with
 | zero=>intro _ _ _ _ h;cases h
 | succ k ih=>
  intro a b v r h ha hb;have sub:∀ {xs ys:List D} {vs:List ag} {r:Bool},wP (rj k) xs ys=some r->Qo J F as xs vs->Qo J F as ys vs->r=true:=by intro xs ys vs r h p q;obtain ⟨hl,e,he,rfl⟩:=xU h;rw [ak];intro j hj;have XQ:=cz.mp hj;have g1:xs[j]? =some xs[j]:=au XQ;have g2:ys[j]? =some (ys[j]'(hl▸XQ)):=au (hl▸XQ);obtain ⟨v1,q1,p1⟩:=p.get g1;obtain ⟨v2,q2,p2⟩:=q.get g2;rw [q1] at q2;cases q2;exact ih (he j _ _ g1 g2) p1 p2
  cases a with
  | none=>replace h:=bi h;obtain ⟨_,_,h⟩:=h;cases h;rfl
  | bool x=>replace h:=bi h;obtain ⟨y,h1,h⟩:=h;cases pL h1;cases (show v= .bool x from ha).symm.trans hb;cases h;exact beq_self_eq_true _
  | int x=>replace h:=bi h;obtain ⟨y,h1,h⟩:=h;cases be h1;obtain ⟨t,rfl⟩:=ha;obtain ⟨t',hb⟩:=hb;cases hb;cases h;exact beq_self_eq_true _
  | str x=>replace h:=bi h;obtain ⟨y,h1,h⟩:=h;cases oK h1;obtain ⟨_,t,rfl⟩:=ha;obtain ⟨_,t',hb⟩:=hb;cases h;injection hb with h1 h2;have:=congrArg (fun x:Str=>x.cps.toList) h1;simp only [lr] at this;rw [this];exact beq_self_eq_true _
  | tup x=>
   replace h:=bi h;obtain ⟨y,h1,h⟩:=h;cases xR h1;split at h
   ·obtain ⟨_,a1,vs,n1,s1,rfl,e1,r1⟩:=qA ha;obtain ⟨_,a2,ws,n2,s2,hq,e2,r2⟩:=qA hb;injection hq with hq;subst hq;rw [e1] at e2;have:vs=ws:=by simp at e2;exact e2.1.1
    subst this;exact sub h r1 r2
   ·cases h
  | lst x=>
   replace h:=bi h;obtain ⟨y,h1,h⟩:=h;cases ph h1;obtain ⟨_,a1,vs,n1,s1,rfl,e1,r1⟩:=io ha;obtain ⟨_,a2,ws,n2,s2,hq,e2,r2⟩:=io hb;injection hq with hq;subst hq;rw [e1] at e2;have:vs=ws:=by simp at e2;exact e2.1.1
   subst this;split at h
   ·exact sub h r1 r2
   ·rename_i hl;exact absurd (r1.length.symm.trans r2.length) hl
  | _=>cases h
theorem GL:∀ {J:Cx} {F:PM} {as:List Addr} {s:ah} (hs:∀ b o,F b=some o->s.heap.get? b=some o),∀ (k:Nat) {A:bf} {a b:D} {u v:ag} {r:Bool},A.units+(k+1)<mj->rj k a b=some r->Rd J F as a u->Rd J F as b v->
  Le A s u v r:=by iterate 5
 intro k;induction k with
 | zero=>intro _ _ _ _ _ _ _ h;cases h
 | succ k ih=>
  intro A a b u v r hu h ha hb;have WJ:A.units<mj:=by omega
  have sub:∀ {xs ys:List D} {vs ws:List ag} {e:Nat->Bool},xs.length=ys.length->(∀ (i:Nat) a b,xs[i]? =some a->ys[i]? =some b->rj k a b=some (e i))->Qo J F as xs vs->Qo J F as ys ws->
    ∀ j (h1:j<vs.toArray.size) (h2:j<ws.toArray.size),oh A.in1 s vs.toArray[j] ws.toArray[j] (e j):=by
   intro xs ys vs ws e hl he r1 r2 j h1 h2;have l1:=r1.length;have l2:=r2.length;simp only [a7] at h1 h2;have g1:xs[j]? =some (xs[j]'(by omega)):=au (by omega);have g2:ys[j]? =some (ys[j]'(by omega)):=au (by omega);obtain ⟨v1,q1,p1⟩:=r1.get g1;obtain ⟨v2,q2,p2⟩:=r2.get g2;have c1:vs.toArray[j]=v1:=by simp only [kY];exact (aj.mp q1).2
   have c2:ws.toArray[j]=v2:=by simp only [kY];exact (aj.mp q2).2
   rw [c1,c2];exact (ih (ES hu) (he j _ _ g1 g2) p1 p2).2.2
  have all:=h;cases a with
  | none=>replace h:=bi h;obtain ⟨_,h1,h⟩:=h;cases rR h1;cases ha;cases hb;cases h;exact ⟨SeqAt.RcAt.none_none,nW,SeqAt.EqAt.same _⟩
  | bool x=>replace h:=bi h;obtain ⟨y,h1,h⟩:=h;cases pL h1;cases ha;cases hb;cases h;exact ⟨SeqAt.RcAt.bool_bool _ _,og _ _,SeqAt.EqAt.bool_bool _ _⟩
  | int x=>replace h:=bi h;obtain ⟨y,h1,h⟩:=h;cases be h1;obtain ⟨t,rfl⟩:=ha;obtain ⟨t',rfl⟩:=hb;cases h;exact ⟨SeqAt.RcAt.int_int _ _ _ _,nZ _ _ _ _,j5 _ _ _ _⟩
  | str x=>replace h:=bi h;obtain ⟨y,h1,h⟩:=h;cases oK h1;obtain ⟨_,t,rfl⟩:=ha;obtain ⟨_,t',rfl⟩:=hb;cases h;rw [<-Dt];exact ⟨SeqAt.RcAt.str_str _ _ _ _,nV _ _ _ _,SeqAt.EqAt.str_str _ _ _ _⟩
  | tup xs=>
   replace h:=bi h;obtain ⟨ys,h1,h⟩:=h;cases xR h1;split at h
   ·rename_i hl;have Vq:=ha;have So:=hb;obtain ⟨_,a1,vs,n1,s1,rfl,e1,r1⟩:=qA ha;obtain ⟨_,a2,ws,n2,s2,rfl,e2,r2⟩:=qA hb;obtain ⟨_,e,he,rfl⟩:=xU h;have Wf:s.heap.IsTuple a1 vs.toArray:=⟨_,hs _ _ e1,rfl,_,rfl⟩
    have Uw:s.heap.IsTuple a2 ws.toArray:=⟨_,hs _ _ e2,rfl,_,rfl⟩
    have l1:=r1.length;have l2:=r2.length;have key:=sub hl he r1 r2;have em:((aN (min vs.toArray.size ws.toArray.size)).all e&&vs.toArray.size==ws.toArray.size)=(aN xs.length).all e:=by simp only [a7,l1,l2,hl,Nat.min_self,beq_self_eq_true,Bool.and_true]
    have rc:=SeqAt.RcAt.tuples Wf Uw WJ key;have rn:=nR Wf Uw WJ key;rw [em] at rc rn;refine ⟨rc,rn,?_⟩;by_cases hq:a1=a2
    ·subst hq;rw [xn (k+1) all Vq So];exact .same _
    ·exact .of_refs hq rc
   ·cases h
  | lst xs=>
   replace h:=bi h;obtain ⟨ys,h1,h⟩:=h;cases ph h1;have Vq:=ha;have So:=hb;obtain ⟨_,a1,vs,n1,s1,rfl,e1,r1⟩:=io ha;obtain ⟨_,a2,ws,n2,s2,rfl,e2,r2⟩:=io hb;have Wf:s.heap.IsList a1 vs.toArray:=⟨_,hs _ _ e1,rfl,_,rfl⟩
   have Uw:s.heap.IsList a2 ws.toArray:=⟨_,hs _ _ e2,rfl,_,rfl⟩
   have l1:=r1.length;have l2:=r2.length;split at h
   ·rename_i hl;obtain ⟨_,e,he,rfl⟩:=xU h;have key:=sub hl he r1 r2;have hz:vs.toArray.size=ws.toArray.size:=by simp only [a7];omega
    have em:(aN vs.toArray.size).all e=(aN xs.length).all e:=by simp only [a7,l1]
    have rc:=SeqAt.RcAt.lists Wf Uw hz WJ key;have rn:=nY Wf Uw hz WJ key;rw [em] at rc rn;refine ⟨rc,rn,?_⟩;by_cases hq:a1=a2
    ·subst hq;rw [xn (k+1) all Vq So];exact .same _
    ·exact .of_refs hq rc
   ·rename_i hl;cases h;have hz:(vs.toArray.size !=ws.toArray.size)=true:=by simp only [a7,l1,l2];simpa using hl
    refine ⟨iR Wf Uw hz WJ,nX Wf Uw hz WJ,?_⟩;by_cases hq:a1=a2
    ·subst hq;exact absurd (xn (k+1) all Vq So) (by simp)
    ·exact .of_refs hq (iR Wf Uw hz WJ)
  | _=>cases h
section
variable {J:Cx} {A:bf} {W:Wd} {s:ah} {X:List Addr}
noncomputable def yc (J:Cx) (h:Heap):Prop:=(J.UR==iB)=false/\∃ f:Str->Option ag,h.MapOf (gu P0 J.w) J.UR f/\∀ x:List Nat,match (qm P0).lookup x with
| none=>f ⟨x.toArray⟩=none
| some i=>∃ t,f ⟨x.toArray⟩=some (.int i t)
theorem HG:∀ {a b:D} {r:Bool} (e:ON a b=some r),(∃ x y,a= .QC x/\b= .QC y/\r=t5 x y)\/rj 6 a b=some r:=by iterate 4 cases a with | QC x=>replace e:=bi e;obtain ⟨y,h1,e⟩:=e;cases e;exact .inl ⟨x,y,rfl,B4 h1,rfl⟩ | _=>exact .inr e
theorem GR:∀ {op:CmpOp} {a b:D} {r:Bool} {u v:ag} (hA:A.units+400<mj) (e:cmp P0 op a b=some r) (ha:Rd J W.F W.as a u) (hb:Rd J W.F W.as b v) (hw:Qn J W s) (hT:yc J s.heap),Ex J A (compareOp op u v) X W s (CV J W.H (.bool r)):=by iterate 12
 cases op with
 | Eq=>
  rcases HG e with ⟨x,y,rfl,rfl,rfl⟩ | e
  ·obtain ⟨_,a1,rfl,n1,p1⟩:=ha;obtain ⟨_,a2,rfl,n2,p2⟩:=hb;obtain ⟨ws,d1,k1⟩:=p1.dictOf hw.sub;obtain ⟨us,d2,k2⟩:=p2.dictOf hw.sub;refine PySem.W.keq_eq n1 n2 d1 d2 (by omega) (fun _=>AA k2 k1) ?_;rw [k1.length,k2.length];exact pd hw
  ·exact (GL hw.sub 6 (by omega) e ha hb).1 _ _ _ _ (pd hw)
 | NotEq=>
  replace e:=bi e;obtain ⟨r',e,h2⟩:=e;cases h2;rcases HG e with ⟨x,y,rfl,rfl,rfl⟩ | e
  ·obtain ⟨_,a1,rfl,n1,p1⟩:=ha;obtain ⟨_,a2,rfl,n2,p2⟩:=hb;obtain ⟨ws,d1,k1⟩:=p1.dictOf hw.sub;obtain ⟨us,d2,k2⟩:=p2.dictOf hw.sub;refine PySem.W.keq_ne n1 n2 d1 d2 (by omega) (fun _=>AA k2 k1) ?_;rw [k1.length,k2.length];exact pd hw
  ·exact (GL hw.sub 6 (by omega) e ha hb).2.1 _ _ _ _ (pd hw)
 | Lt=>replace e:=qI e;obtain ⟨i,h1,j,h2,e⟩:=e;cases be h1;cases be h2;cases e;obtain ⟨t,rfl⟩:=ha;obtain ⟨t',rfl⟩:=hb;exact om (pd hw)
 | LtE=>replace e:=qI e;obtain ⟨i,h1,j,h2,e⟩:=e;cases be h1;cases be h2;cases e;obtain ⟨t,rfl⟩:=ha;obtain ⟨t',rfl⟩:=hb;exact oo (pd hw)
 | GtE=>replace e:=qI e;obtain ⟨i,h1,j,h2,e⟩:=e;cases be h1;cases be h2;cases e;obtain ⟨t,rfl⟩:=ha;obtain ⟨t',rfl⟩:=hb;exact ot (pd hw)
 | Is=>
  cases a with
  | none=>replace e:=bi e;obtain ⟨_,h1,e⟩:=e;cases rR h1;cases ha;cases hb;cases e;exact is_none (pd hw)
  | int i=>replace e:=bi e;obtain ⟨_,h1,e⟩:=e;cases rR h1;obtain ⟨t,rfl⟩:=ha;cases hb;cases e;exact is_none (pd hw)
  | bool x=>
   replace e:=bi e;obtain ⟨y,h1,e⟩:=e;cases pL h1;cases ha;cases hb;cases e;refine wpAny_is_plain rfl ?_;have e:((bJ x==bJ y):Bool)=(x==y):=by cases x<;>cases y<;>rfl
   rw [e];exact pd hw
  | _=>cases e
 | IsNot=>
  replace e:=qI e;obtain ⟨x,h1,y,h2,e⟩:=e;cases pL h1;cases pL h2;cases ha;cases hb;cases e;refine wpAny_isNot_plain rfl ?_;have e:((bJ x==bJ y):Bool)=(x==y):=by cases x<;>cases y<;>rfl
  rw [e];exact pd hw
 | In=>
  have str:OF a b=some r->Ex J A (compareOp .In u v) X W s (CV J W.H (.bool r)):=fun e=>by replace e:=vq e;obtain ⟨x,h1,c,h2,y,h3,e⟩:=e;cases oK h1;cases oK h3;cases oS h2;obtain ⟨_,t,rfl⟩:=ha;obtain ⟨_,t',rfl⟩:=hb;cases e;refine P.in_str ?_;rw [kU];exact pd hw
  cases b with
  | tab=>replace e:=bi e;obtain ⟨x,h1,e⟩:=e;cases oK h1;obtain ⟨_,t,rfl⟩:=ha;cases hb;cases e;obtain ⟨n,f,m,k⟩:=hT;have hk:=k x;refine wpAny_in_of (knd:=gu P0 J.w) (k:=⟨x.toArray⟩) (by show ((⟨x.toArray⟩:Str)==⟨x.toArray⟩)=true;exact beq_self_eq_true _) n m ?_;have z:=fun q:Bool=>y8 (b:=q) (X:=X) (tk:=s.toks+1) hw;cases h1:(qm P0).lookup x with | none=>rw [h1] at hk;rw [hk];exact z _ | some i=>rw [h1] at hk;obtain ⟨t',hk⟩:=hk;rw [hk];exact z _
  | _=>exact str e
 | NotIn=>replace e:=bi e;obtain ⟨r',e,h2⟩:=e;cases h2;replace e:=vq e;obtain ⟨x,h1,c,h2,y,h3,e⟩:=e;cases oK h1;cases oK h3;cases oS h2;obtain ⟨_,t,rfl⟩:=ha;obtain ⟨_,t',rfl⟩:=hb;cases e;refine P.notIn_str ?_;rw [kU];exact pd hw
 | _=>cases e
theorem jp:∀ (slice:Expr) (o i:ag),∃ ops,subscripted slice false o i=operate ops (mO o i):=by iterate 3 cases slice with | Slice a b c p=>cases c<;>exact ⟨_,rfl⟩ | _=>exact ⟨_,rfl⟩
theorem LK:∀ {k:Int} (h:k<lim),k<2 ^ 63:=by iterate 2
 have:(lim:Int)<2 ^ 63:=by decide
 omega
theorem yP:∀ {k:Int} {n:Nat} (h0:0<=k) (h:k<n),mh k n=some k.toNat:=by iterate 4
 have e1:¬ k<0:=by omega
 simp [mh,e1,h0,h]
theorem IQ:∀ {value slice:Expr} {a k d:D} {va vk:ag} (e:subD P0 a k=some d) (ha:Rd J W.F W.as a va) (hk:Rd J W.F W.as k vk) (hw:Qn J W s) (hT:yc J s.heap),Ex J A (jh value slice va vk) X W s (CV J W.H d):=by iterate 12
 cases a with
 | lst xs=>replace e:=bi e;obtain ⟨j,h1,e⟩:=e;cases qx h1;obtain ⟨hl,a1,vs,n1,s1,rfl,e1,r1⟩:=io ha;obtain ⟨t,rfl⟩:=hk;obtain ⟨v,hv,hd⟩:=r1.get e;obtain ⟨ops,ho⟩:=jp slice (.ref a1) (.int j t);have RJ:j<xs.length:=(aj.mp e).1;refine hO ⟨_,hw.sub _ _ e1,rfl⟩ dR.lookup ?_ ho;exact jf ⟨_,hw.sub _ _ e1,rfl,_,rfl⟩ (az j) (LK (by omega)) (by simpa using hv) ⟨W,Qk.refl hw,rfl,hd⟩
 | tup xs=>replace e:=bi e;obtain ⟨j,h1,e⟩:=e;cases qx h1;obtain ⟨hl,a1,vs,n1,s1,rfl,e1,r1⟩:=qA ha;obtain ⟨t,rfl⟩:=hk;obtain ⟨v,hv,hd⟩:=r1.get e;obtain ⟨ops,ho⟩:=jp slice (.ref a1) (.int j t);have RJ:j<xs.length:=(aj.mp e).1;have l1:=r1.length;refine hO ⟨_,hw.sub _ _ e1,rfl⟩ PySem.F.slot_tuple_getitem.lookup ?_ ho;refine getItem_tuple (j:=j) ⟨_,hw.sub _ _ e1,rfl,_,rfl⟩ (by omega) (LK (by omega)) ?_ (by simpa using hv) ⟨W,Qk.refl hw,rfl,hd⟩;exact yP (k:=(j:Int)) (az j) (by simp only [a7];omega)
 | str xs=>
  replace e:=qI e;obtain ⟨j,h1,c,e,h2⟩:=e;cases qx h1;cases h2;obtain ⟨hl,t,rfl⟩:=ha;obtain ⟨u,rfl⟩:=hk;obtain ⟨ops,ho⟩:=jp slice (.str ⟨xs.toArray⟩ t) (.int j u);have RJ:j<xs.length:=(aj.mp e).1;refine hO (typeIs_str s _ t) jy.lookup ?_ ho;refine P.getItem_str (c:=c) ?_ ?_ (uk (x:=[c]) hw (by show 1<=lim;decide))
  ·have:=LK (k:=j) (by omega);simp only [Bool.or_eq_false_iff,decide_eq_false_iff_not];omega
  ·rw [yP (az j) (by show (j:Int)<((xs.toArray.size:Nat):Int);simp only [a7];omega)];simpa using e
 | QC Qx=>replace e:=qI e;obtain ⟨k,h1,i,e,h2⟩:=e;cases be h1;cases h2;obtain ⟨hl,a1,rfl,n1,p1⟩:=ha;obtain ⟨u,rfl⟩:=hk;obtain ⟨ws,d1,k1⟩:=p1.dictOf hw.sub;obtain ⟨t,hv⟩:=(rT k1 k).1 i e;obtain ⟨ops,ho⟩:=jp slice (.ref a1) (.int k u);refine hO d1.mapOf.typeIs jn.lookup ?_ ho;exact nN (knd:=IK J) (k:=k) (by simp [intKind,Value.isInt]) d1.mapOf hv (nw hw)
 | tab=>replace e:=qI e;obtain ⟨x,h1,i,e,h2⟩:=e;cases oK h1;cases h2;cases ha;obtain ⟨_,u,rfl⟩:=hk;obtain ⟨n,f,m,h⟩:=hT;have h:=h x;rw [e] at h;obtain ⟨t,h⟩:=h;obtain ⟨ops,ho⟩:=jp slice (.ref J.UR) (.str ⟨x.toArray⟩ u);refine hO m.typeIs jn.lookup ?_ ho;exact nN (knd:=gu P0 J.w) (k:=⟨x.toArray⟩) (by show ((⟨x.toArray⟩:Str)==⟨x.toArray⟩)=true;exact beq_self_eq_true _) m h (nw hw)
 | _=>cases e
noncomputable def RK:Option Int->ag->Prop
| none,v=>v= .none
| some i,v=>∃ t,v= .int i t
theorem RK.Tb:∀ {o:Option Int} {v:ag} (h:RK o v),IsPart v o:=by iterate 3 cases o with | none=>dsimp only [RK] at h;subst h;exact .none | some i=>obtain ⟨t,rfl⟩:=h;exact .int i t
theorem KA:∀ (xs:List α) (a b:Nat) (hb:b<=xs.length),(aN (b-a)).filterMap (fun k=>xs[a+k]?)=(xs.take b).drop a:=by iterate 4
 apply iP;intro i;have key:∀ (n a:Nat),a+n<=xs.length->(aN n).filterMap (fun k=>xs[a+k]?)=(xs.drop a).take n:=by intro n;induction n with | zero=>intro a _;simp | succ n ih=>intro a h;rw [dF,kN,ih a (by omega)];have:xs[a+n]? =some xs[a+n]:=au (by omega);simp only [fq,this,List.filterMap_nil];rw [gk,fJ,this];rfl
 by_cases h:a<=b
 ·rw [key (b-a) a (by omega)];rw [List.drop_take]
 ·have:b-a=0:=by omega
  rw [this];simp;omega
theorem Cj:∀ (n:Nat) (i:Int),max 0 (min (if i<0 then i+(n:Int) else i) (n:Int))=(pI n i:Int):=by iterate 2 unfold pI;split<;>omega
theorem uM:∀ (n:Nat) (hi:Option Int),oW n hi<=n:=by iterate 2 cases hi with | none=>exact bN _ | some i=>show pI n i<=n;unfold pI;split<;>omega
theorem Av:∀ (lo hi:Option Int) (n:Nat),lq (eW lo hi none n).1 (eW lo hi none n).2.1 (eW lo hi none n).2.2=
  (aN (oW n hi-oP n lo)).map fun k=>oP n lo+k:=by iterate 3
 have hb:eW lo hi none n=(((oP n lo:Nat):Int),((oW n hi:Nat):Int),1):=by unfold eW;simp only [gx,show ((1:Int) > 0)=True from by simp,if_true];cases lo<;>cases hi<;>simp only [oP,oW,Cj]<;>rfl
 rw [hb];show lq (oP n lo:Nat) (oW n hi:Nat) 1=_;unfold lq;simp only [show ((1:Int) > 0)=True from by simp,if_true];have:(if ((oP n lo:Nat):Int)<((oW n hi:Nat):Int) then (((oW n hi:Nat):Int)-((oP n lo:Nat):Int)+1-1) / 1 else 0).toNat=oW n hi-oP n lo:=by split<;>omega
 rw [this];apply cN;intro k _;omega
theorem vC:∀ (vs:List ag) (lo hi:Option Int),slicePick vs.toArray lo hi none=(slice vs lo hi).toArray:=by iterate 3 unfold slicePick slice;rw [show vs.toArray.size=vs.length from by simp,Av,dy,<-KA vs _ _ (uM _ _)];congr 1;congr 1;funext k;simp
theorem yV:∀ {F:PM} {as:List Addr} {ds:List D} {vs:List ag} (r:Qo J F as ds vs) (lo hi:Option Int),Qo J F as (slice ds lo hi) (slice vs lo hi):=by iterate 7
 have l:=r.length;have tk:∀ {ds:List D} {vs:List ag} (n:Nat),Qo J F as ds vs->Qo J F as (ds.take n) (vs.take n):=by
  intro ds vs n r;refine Qo.of_get (by simp [r.length]) fun i d v h1 h2=>?_;rw [List.getElem?_take] at h1 h2;split at h1
  ·rename_i hi;rw [if_pos hi] at h2;obtain ⟨v',q1,q2⟩:=r.get h1;rw [h2] at q1;cases q1;exact q2
  ·cases h1
 have dp:∀ {ds:List D} {vs:List ag} (n:Nat),Qo J F as ds vs->Qo J F as (ds.drop n) (vs.drop n):=by intro ds vs n r;refine Qo.of_get (by simp [r.length]) fun i d v h1 h2=>?_;rw [fJ] at h1 h2;obtain ⟨v',q1,q2⟩:=r.get h1;rw [h2] at q1;cases q1;exact q2
 unfold slice;rw [l];exact dp _ (tk _ r)
theorem yd:∀ {α:Type} (xs:List α) (l h:Option Int),(slice xs l h).length<=xs.length:=by iterate 4 unfold slice;simp;omega
theorem yG:∀ {F:PM} {as:List Addr},∀ {cs:List Nat} {vs:List ag},xw cs vs->Qo J F as (cs.map fun c=> .str [c]) vs:=by iterate 2 intro cs;induction cs with | nil=>intro _ h;dsimp only [xw] at h;subst h;rw [iU];dsimp only [Qo] | cons c cs Qj=>intro _ h;obtain ⟨v,r,rfl,⟨t,ht⟩,h2⟩:=h;rw [aB];dsimp only [Qo,Rd];exact ⟨v,r,rfl,⟨by simp [lim],t,ht⟩,Qj h2⟩
theorem sP:∀ {i:Nat} {mo:MO} {v:ag} (hw:Qn J W s) (h1:W.H[i]? =some mo) (h2:Rd J W.F W.as (.loc i) v),∃ a fp,v= .ref a/\W.as[i]? =some a/\W.QF[i]? =some fp/\RF J W.F W.as s.heap mo a fp:=by iterate 6
 dsimp only [Rd] at h2;obtain ⟨a,rfl,ha⟩:=h2;have hi:i<W.QF.length:=by rw [hw.Rh];exact (aj.mp h1).1
 exact ⟨a,_,rfl,ha,au hi,hw.obj i mo a _ h1 ha (au hi)⟩
theorem Es:∀ {a d:D} {l h:Option Int} {va vl vh:ag} {sl:Addr} (e:xc W.H a l h=some d) (ha:Rd J W.F W.as a va) (hl:RK l vl) (hh:RK h vh) (hw:Qn J W s) (hs:s.heap.IsSliceOf sl vl vh .none),Ex J A (mO va (.ref sl)) X W s (CV J W.H d):=by iterate 14
 cases a with
 | lst xs=>obtain ⟨hlen,a1,vs,n1,s1,rfl,e1,r1⟩:=io ha;cases e;have Rm:=pe;have l1:=r1.length;refine gS ⟨_,hw.sub _ _ e1,rfl,_,rfl⟩ hs hl.Tb hh.Tb .none (by simp) ?_ (by simp only [a7];omega);exact sw (tk:=s.toks) hw (yV r1 l h) (bw (yd xs l h) hlen) (vC vs l h)
 | str xs=>
  obtain ⟨hlen,t,rfl⟩:=ha;cases e;obtain ⟨o,h1,h2,h3⟩:=hs;have key:∀ (x:Option Int) (v:ag),RK x v->∃ y:Option (Int×Tok),v=partValue y/\y.map (·.1)=x:=by intro x v hx;cases x with | none=>simp only [RK] at hx;subst hx;exact ⟨none,rfl,rfl⟩ | some i=>simp only [RK] at hx;obtain ⟨t,rfl⟩:=hx;exact ⟨some (i,t),rfl,rfl⟩
  obtain ⟨yl,rfl,ql⟩:=key _ _ hl;obtain ⟨yh,rfl,qh⟩:=key _ _ hh;have Yx:(slice xs l h).length<=lim:=bw (yd xs l h) hlen;refine wpAny_getItem_str_slice (st:=none) ⟨o,h1,h2,h3⟩ rfl ?_;have XN:mL ⟨xs.toArray⟩ yl yh none=(aN (oW xs.length h-oP xs.length l)).map fun k=>oP xs.length l+k:=by
   unfold mL;rw [ql,qh,<-Av];have:(du ⟨xs.toArray⟩)=xs.length:=by simp [du]
   rw [this];rfl
  have hp:(mL ⟨xs.toArray⟩ yl yh none).filterMap (fun i=>(xs.toArray)[i]?)=slice xs l h:=by rw [XN,dy];unfold slice;rw [<-KA xs _ _ (uM _ _)];congr 1;funext k;simp
  unfold sliceMade;split
  ·rename_i hc;have VX:=(ai _ _).mp hc |>.2;rw [XN] at VX;simp only [aG,lV,du,a7,beq_iff_eq] at VX;have hle:=uM xs.length h;have hs:slice xs l h=xs:=by
    unfold slice;by_cases hz:xs.length=0
    ·have:=eS hz;subst this;simp
    ·have a0:oP xs.length l=0:=by omega
     have b0:oW xs.length h=xs.length:=by omega
     rw [a0,b0];simp
   rw [hs];exact ⟨W,Qk.refl hw,rfl,hlen,t,rfl⟩
  ·have Rm:=pe;refine ⟨?_,?_⟩
   ·show Array.size _<=dw;simp only [a7];rw [hp];omega
   ·show ∃ W',_;rw [hp];exact uk hw Yx
 | loc j=>
  replace e:=qI e;obtain ⟨o,hj,cs,h1,e⟩:=e;cases e;cases sC h1;obtain ⟨a,fp,rfl,Vq,Uo,hc,rfl,ss,⟨o,n,e1,e2,e3,e4⟩,Tv⟩:=sP hw hj ha;have r1:=yG (J:=J) (F:=W.F) (as:=W.as) Tv;have l1:=r1.length;have Rm:=pe;have hss:ss.size=cs.length:=by rw [<-bA,l1,aG]
  refine gS ⟨o,e1,e2,n,e4⟩ hs hl.Tb hh.Tb .none (by simp) ?_ (by omega);have:=vC ss.toList l h;exact sw (tk:=s.toks) hw (yV r1 l h) (bw (yd _ l h) (by simpa using hc)) (by simpa using this)
 | _=>cases e
theorem IT:∀ {a d:D} {va:ag} {sl:Addr} {t:Nat} (e:Jv a=some d) (ha:Rd J W.F W.as a va) (hw:Qn J W s) (hs:s.heap.IsSliceOf sl .none .none (.int (-1) t)),Ex J A (mO va (.ref sl)) X W s (CV J W.H d):=by iterate 9
 replace e:=bi e;obtain ⟨xs,h1,e⟩:=e;cases ph h1;obtain ⟨hlen,a1,vs,n1,s1,rfl,e1,r1⟩:=io ha;cases e;have Rm:=pe;have l1:=r1.length;refine gS ⟨_,hw.sub _ _ e1,rfl,_,rfl⟩ hs .none .none (.int (-1) t) (by simp) ?_ (by simp only [a7];omega);have hr:Qo J W.F W.as xs.reverse vs.reverse:=by
  refine Qo.of_get (by simp [l1]) fun i d v h1 h2=>?_;have hi:i<xs.length:=by simpa using (aj.mp h1).1
  rw [bP hi] at h1;rw [bP (by omega)] at h2;rw [l1] at h2;obtain ⟨v',q1,q2⟩:=r1.get h1;rw [h2] at q1;cases q1;exact q2
 refine sw (tk:=s.toks) hw hr (by simpa using hlen) ?_;unfold slicePick;congr 1;have hb:lq (eW none none (some (-1)) vs.toArray.size).1 (eW none none (some (-1)) vs.toArray.size).2.1 (eW none none (some (-1)) vs.toArray.size).2.2=(aN vs.length).map fun k=>vs.length-1-k:=by have:=picked_rev vs.length;rw [<-this];simp only [a7];rfl
 rw [hb,dy];apply iP;intro i;have Qy:∀ n,n<=vs.length->((aN n).filterMap ((fun x=>vs.toArray[x]?) ∘ fun k=>vs.length-1-k))=vs.reverse.take n:=by intro n;induction n with | zero=>intro _;simp | succ n ih=>intro hn;rw [dF,kN,ih (by omega),gk];congr 1;rw [bP (by omega)];have:vs[vs.length-1-n]? =some (vs[vs.length-1-n]'(by omega)):=au (by omega);simp [this]
 rw [Qy _ (bN _),gN (by simp)]
noncomputable abbrev li (J:Cx) (d:D) (g:G) (v:ag) (W:Wd) (s:ah):Prop:=W.H=g/\Rd J W.F W.as d v
theorem qC:∀ {F:PM} {as:List Addr} {d:D} {vs:List ag} (r:Qo J F as [d] vs),∃ v,vs=[v]/\Rd J F as d v:=by iterate 5 dsimp only [Qo] at r;obtain ⟨v,_,rfl,h,rfl⟩:=r;exact ⟨v,rfl,h⟩
theorem uH:∀ {F:PM} {as:List Addr} {d e:D} {vs:List ag} (r:Qo J F as [d,e] vs),∃ v u,vs=[v,u]/\Rd J F as d v/\Rd J F as e u:=by iterate 6 dsimp only [Qo] at r;obtain ⟨v,_,rfl,h,u,_,rfl,h',rfl⟩:=r;exact ⟨v,u,rfl,h,h'⟩
theorem sI:∀ {F:PM} {as:List Addr} {vs:List ag} (r:Qo J F as [] vs),vs=[]:=by iterate 4 exact r
theorem yb:∀ {F:PM} {as:List Addr} {ds:List D},∀ {l:List Int} {vs:List ag},sQ ds=some l->Qo J F as ds vs->IntsAre vs l:=by iterate 3 induction ds with | nil=>intro l vs e r;cases e;cases sI r;exact .nil | cons d ds ih=>intro l vs e r;obtain ⟨v,r',rfl,h,q⟩:=r;obtain ⟨i,h1,l',e1,h2⟩:=qI e;cases h2;cases be h1;obtain ⟨t,rfl⟩:=h;exact .cons _ t (ih e1 q)
theorem yy:∀ {vs:List ag} {l:List Int},IntsAre vs l->∃ xs:List (Int×Tok),vs=xs.map (fun p=>dZ p.1 p.2)/\xs.map (·.1)=l:=by iterate 0 intro vs l h;induction h with | nil=>exact ⟨[],rfl,rfl⟩ | cons n t h Qj=>obtain ⟨xs,e1,e2⟩:=Qj;exact ⟨(n,t)::xs,by rw [e1];rfl,by rw [aB,e2]⟩
theorem yC:∀ {ds:List D} {vs:List ag} {d:D} {g:G} (e:Bt ds W.H=some (d,g)) (r:Qo J W.F W.as ds vs) (hw:Qn J W s),Ex J A (call (.builtin "len") vs) X W s (li J d g):=by iterate 7
 have QS:(lim:Int)<2 ^ 63:=by decide
 replace e:=qI e;obtain ⟨d0,h1,n,e,h2⟩:=e;cases oS h1;cases h2;obtain ⟨v,rfl,h⟩:=qC r;cases d0 with
 | lst xs=>cases e;obtain ⟨hl,a1,ws,n1,s1,rfl,e1,r1⟩:=io h;have l1:=r1.length;refine fO ⟨_,hw.sub _ _ e1,rfl,_,rfl⟩ (by simp only [a7];omega) ?_;simp only [a7,l1];exact nw hw
 | str xs=>cases e;obtain ⟨hl,t,rfl⟩:=h;refine P.len_str (by simp only [du,a7];omega) ?_;simp only [du,a7];exact nw hw
 | loc i=>
  obtain ⟨a,rfl,ha⟩:=h;replace e:=qI e;obtain ⟨o,hg,rows,h1,e⟩:=e;cases e;cases rN h1;have hi:i<W.QF.length:=by rw [hw.Rh];exact (aj.mp hg).1
  obtain ⟨hl,ws,rs,⟨o,n,e1,e2,e3,e4⟩,h2,h3,h4,_⟩:=hw.obj i _ a _ hg ha (au hi);have Rm:ws.size=rows.length:=by rw [<-h4,<-aG (f:=ef) (as:=rs),<-h2,bA]
  refine fO (items:=ws) ⟨o,e1,e2,n,e4⟩ (by omega) ?_;rw [Rm];exact nw hw
 | _=>cases e
theorem AH:∀ {ds:List D} {vs:List ag} {d:D} {g:G} (e:Aj ds W.H=some (d,g)) (r:Qo J W.F W.as ds vs) (hw:Qn J W s),Ex J A (call (.type "range") vs) X W s (li J d g):=by iterate 7 replace e:=qI e;obtain ⟨⟨d0,ZZ⟩,h1,i,h2,e⟩:=e;cases qr h1;cases be h2;cases ZZ with | nil=>cases e;obtain ⟨v,rfl,t,rfl⟩:=qC r;exact PySem.call_range_1 ⟨_,Qk.Tq hw _,rfl,_,_,_,_,rfl,oN _ _ _⟩ | cons d1 UC=>replace e:=qI e;obtain ⟨_,h3,j,h4,e⟩:=e;cases oU h3;cases be h4;cases e;obtain ⟨v,u,rfl,⟨t,rfl⟩,t',rfl⟩:=uH r;exact PySem.call_range_2 ⟨_,Qk.Tq hw _,rfl,_,_,_,_,rfl,oN _ _ _⟩
theorem wp:∀ {ds:List D} {vs:List ag} {d:D} {g:G} (e:ux ds W.H=some (d,g)) (r:Qo J W.F W.as ds vs) (hw:Qn J W s),Ex J A (call (.builtin "isinstance") vs) X W s (li J d g):=by iterate 7 replace e:=qI e;obtain ⟨⟨d0,d1⟩,h1,_,h2,e⟩:=e;cases rm h1;cases zj h2;obtain ⟨v,u,rfl,h,h'⟩:=uH r;cases h';cases d0 with | int i=>cases e;obtain ⟨t,rfl⟩:=h;exact IsiPair.int_int (pd hw) | lst xs=>cases e;obtain ⟨hl,a1,ws,n1,s1,rfl,e1,r1⟩:=io h;exact IsiPair.list_int (hw.sub _ _ e1) rfl (y8 hw) | _=>cases e
theorem zr:∀ {ds:List D} {vs:List ag} {d:D} {g:G} (e:vN ds W.H=some (d,g)) (r:Qo J W.F W.as ds vs) (hw:Qn J W s),Ex J A (call (.builtin "divmod") vs) X W s (li J d g):=by iterate 7
 replace e:=vq e;obtain ⟨⟨d0,d1⟩,h1,a,h2,b,h3,e⟩:=e;cases rm h1;cases be h2;cases be h3;split at e
 ·rename_i hs;cases e;obtain ⟨v,u,rfl,⟨t,rfl⟩,t',rfl⟩:=uH r;refine ou hs.1 ?_ (.inl (xh hs.2));exact CP (vs:=[_,_]) hw ⟨_,_,rfl,⟨_,rfl⟩,_,_,rfl,⟨_,rfl⟩,rfl⟩ (by show 2<=lim;decide) rfl
 ·cases e
theorem Fz:∀ {xs:List (Int×Tok)} (j:Nat),numAt xs.toArray j=(xs.map (·.1)).getD j 0:=by iterate 2 unfold numAt;simp [bl]
theorem yW:∀ (l:List Int) (n:Nat),preSum (fun j=>l.getD j 0) n=(l.take n).sum:=by iterate 2 induction n with | zero=>simp [preSum] | succ n ih=>have:preSum (fun j=>l.getD j 0) (n+1)=preSum (fun j=>l.getD j 0) n+l.getD n 0:=rfl;rw [this,ih,gk,List.sum_append];congr 1;rw [bl];cases l[n]?<;>simp
theorem Ew:∀ {l:List Int} (h:∀ i∈l,i.natAbs<1099511627776),l.sum.natAbs<=l.length * 1099511627776:=by iterate 2
 induction l with
 | nil=>simp
 | cons i l ih=>have h1:=h i (by simp);have h2:=ih fun j hj=>h j (by simp [hj]);have h3:=Int.natAbs_add_le i l.sum;rw [kj,aI];omega
theorem Eb:∀ {ds:List D} {vs:List ag} {d:D} {g:G} (hA:A.handled=none) (e:tC ds W.H=some (d,g)) (r:Qo J W.F W.as ds vs) (hw:Qn J W s),Ex J A (call (.builtin "sum") vs) X W s (li J d g):=by iterate 8
 replace e:=vq e;obtain ⟨d0,h1,xs,h2,l,e,h⟩:=e;cases oS h1;cases ph h2
 ·split at h
  ·rename_i hs;cases h;obtain ⟨v,rfl,h⟩:=qC r;obtain ⟨hl,a1,ws,n1,s1,rfl,e1,r1⟩:=io h;obtain ⟨ps,rfl,rfl⟩:=yy (yb e r1);have l1:=r1.length;have hi:s.heap.IsList a1 (intItems ps.toArray):=⟨_,hw.sub _ _ e1,rfl,n1,by unfold intItems;simp⟩
   have Qy:∀ i∈ps.map (·.1),i.natAbs<1099511627776:=fun i hi=>by simpa using ak.mp hs i hi
   have hn:numAt ps.toArray=fun j=>(ps.map (·.1)).getD j 0:=funext fun j=>Fz j;refine sum_intList hA hi (fun j hj=>?_) fun h' tk t' hk=>?_
   ·rw [hn,yW];have XQ:j<(ps.map (·.1)).length:=by simpa using hj
    have hg:(ps.map (·.1)).getD j 0=(ps.map (·.1))[j]:=by rw [bl,au XQ];rfl
    have b1:=Qy _ (b5 XQ);have b2:=Ew (l:=(ps.map (·.1)).take (j+1)) fun i hi=>Qy i (cZ hi);have b3:((ps.map (·.1)).take (j+1)).length<=1048576:=by
     have:(ps.map (·.1)).length<=1048576:=by have:=hl;unfold lim at this;simp only [aG] at l1 ⊢;omega
     simp only [gK];omega
    unfold InLong;show (-2 ^ 63<=(ps.map (·.1)).getD j 0/\(ps.map (·.1)).getD j 0<2 ^ 63)/\_;rw [hg];have b4:((ps.map (·.1)).take (j+1)).length * 1099511627776<=1048576 * 1099511627776:=fg _ b3;generalize ((ps.map (·.1)).take (j+1)).sum=S at *;generalize (ps.map (·.1))[j]=T at *;omega
   ·rw [hn,yW];have:(ps.map (·.1)).take ps.toArray.size=ps.map (·.1):=gN (by simp);rw [this];have k:Qk J X W s W {s with heap:=h',toks:=tk}:=by
     exact (Qk.grow (X:=[]) (s':={s with heap:=h',toks:=tk}) hw (fun a o _ e=>hk a o e) (fun a o e=>⟨o,hk a o e⟩) (by simp) rfl rfl).weaken (by simp)
    exact ⟨W,k,rfl,_,rfl⟩
  ·cases h
theorem tB:∀ (n:Nat) (a:Int),(vy n a).length=n:=by iterate 0 intro n;induction n with | zero=>intro _;exact rfl | succ n Qj=>intro a;(dsimp only [vy];simp [Qj])
theorem FR:∀ (n:Nat) (a:Int) (i:Nat),i<n->(vy n a)[i]? =some (.int (a+i)):=by iterate 0
 intro n;induction n with
 | zero=>exact fun _ _ h=>absurd h (mV _)
 | succ n Qj=>intro a i h;cases i with | zero=>dsimp only [vy];simp | succ i=>dsimp only [vy];simp only [cL];rw [Qj (a+1) i (by omega)];congr 2;omega
theorem wB:∀ {a b:Int} (h:yH a b=true),nH a b 1=true/\(b-a).toNat<=lim/\nK a b 1=((b-a).toNat:Int):=by iterate 3 have h:=of_decide_eq_true h;refine ⟨small_one (by omega) (by omega) (by omega) (by omega),h.2.2.2.2,?_⟩;rw [rangeSize_one];split<;>omega
theorem B1:∀ {ds:List D} {vs:List ag} {d:D} {g:G} (hA:A.handled=none) (e:Do ds W.H=some (d,g)) (r:Qo J W.F W.as ds vs) (hw:Qn J W s),Ex J A (call (.type "list") vs) X W s (li J d g):=by iterate 8
 replace e:=qI e;obtain ⟨d0,h1,⟨a,b⟩,h2,e⟩:=e;cases oS h1;cases BB h2
 ·split at e
  ·rename_i hs;cases e;obtain ⟨v,rfl,q,t,u,w',rfl,hq⟩:=qC r;obtain ⟨hb,hs,Rm⟩:=wB hs;refine call_list_range (n:=(b-a).toNat) hA (hw.sub _ _ hq) hb Rm ?_ fun h' tk QP c' hk hn hit=>?_
   ·have:=hs;unfold lim at this;omega
   ·have k:Qk J X W s W {s with heap:=h',toks:=tk}:=(Qk.grow (X:=[]) (s':={s with heap:=h',toks:=tk}) hw (fun a o _ e=>hk a o e) (fun a o e=>⟨o,hk a o e⟩) (by simp) rfl rfl).weaken (by simp);have nn:=hw.QL (bn _);have k2:=Qk.Q3 k hn (bn _) nn.2.1 nn.2.2;refine ⟨_,k2,rfl,?_⟩;refine ⟨by rw [tB];exact hs,_,QP.toList,rfl,?_,?_⟩
    ·exact Q8.of (n:=c') (by rw [ig];exact oN _ _ _)
    ·refine Qo.of_get (by rw [tB,bA];exact hit.1) fun i d v hi hv=>?_;have hl:i<(b-a).toNat:=by
      have:=(aj.mp hi).1;rwa [tB] at this
     rw [FR _ _ _ hl] at hi;cases hi;rw [eP] at hv;obtain ⟨t',h2⟩:=hit.2 i v hv;subst h2;exact ⟨t',by congr 1;omega⟩
  ·cases e
theorem Au:∀ {sep:List Nat} {ds:List D} {F:PM} {as:List Addr},∀ {r:List Nat} {vs:List ag},ya sep ds=some r->Qo J F as ds vs->
  ∃ ys:List Str,StrsAre vs ys/\Str.join ⟨sep.toArray⟩ ys=⟨r.toArray⟩:=by iterate 4
 induction ds with
 | nil=>intro r vs e h;cases e;cases sI h;exact ⟨[],.nil,rfl⟩
 | cons d ds ih=>
  intro r vs e h;obtain ⟨v,q,rfl,h,hq⟩:=h;replace e:=bi e;obtain ⟨x,h1,e⟩:=e;cases oK h1;obtain ⟨_,t,rfl⟩:=h;cases ds with
  | nil=>cases e;cases sI hq;exact ⟨[_],.cons _ _ .nil,rfl⟩
  | cons d' Ra=>replace e:=bi e;obtain ⟨y,e,h2⟩:=e;cases h2;obtain ⟨ys,h1,h2⟩:=ih e hq;refine ⟨⟨x.toArray⟩::ys,.cons _ _ h1,?_⟩;cases ys with | nil=>cases h1;have:=hq.length;simp at this | cons y' Ww=>show Str.mk x.toArray++Str.mk sep.toArray++Str.join _ (y'::Ww)=_;rw [h2];show Str.mk (x.toArray++sep.toArray++y.toArray)=_;simp
theorem EH:∀ {sep r:List Nat} {ds:List D} {d:D} {va:ag} {vs:List ag} (e:ya sep ds=some r) (e':EZ r=some d) (ha:Rd J W.F W.as (.str sep) va) (h:Qo J W.F W.as [.lst ds] vs) (hw:Qn J W s),Ex J A (call (.builtin "str.join") (va::vs)) X W s (li J d W.H):=by iterate 11
 obtain ⟨v,rfl,hv⟩:=qC h;obtain ⟨hl,a1,ws,n1,s1,rfl,e1,r1⟩:=io hv;dsimp only [Rd] at ha;obtain ⟨hs,t,rfl⟩:=ha;obtain ⟨hr,rfl⟩:=vH e';obtain ⟨ys,h1,h2⟩:=Au e r1;have h3:Builtin.Str.glued ⟨sep.toArray⟩ ys=⟨r.toArray⟩:=by rw [StrLaws.glued_eq_join];exact h2
 refine join_list (items:=ws.toArray) (ys:=ys) ⟨_,hw.sub _ _ e1,rfl,n1,rfl⟩ (by simpa using h1) ?_ fun t' k=>?_
 ·have h4:=size_glued ⟨sep.toArray⟩ ys;rw [h3] at h4;simp only [du,a7] at h4 ⊢;unfold lim at hr hs;cases ys with | nil=>simp | cons y ys=>simp only [aI,Nat.add_sub_cancel,gH,lL] at h4 ⊢;have e5:(nh (fun x:Str=>x.cps.size) (y::ys)).sum=(nh du (y::ys)).sum:=rfl;rw [e5];omega
 ·show _;have:Txt.join ⟨sep.toArray⟩ ys=⟨r.toArray⟩:=h3;rw [this];exact uk hw hr
theorem BN:∀ {x:List Nat} {d:D} {va:ag} (e:BI x=some d) (ha:Rd J W.F W.as (.str x) va) (hw:Qn J W s),Ex J A (call (.builtin "str.split") [va]) X W s (li J d W.H):=by iterate 6
 dsimp only [Rd] at ha;obtain ⟨hs,t,rfl⟩:=ha;unfold BI at e;split at e
 ·cases e
 ·rename_i Rl;split at e
  ·rename_i Qy;obtain ⟨hl,rfl⟩:=tF e;have hlen:(fK ⟨x.toArray⟩ (x.length+1)).length<=lim:=by
    have:(wordsOf ⟨x.toArray⟩).length=(fK ⟨x.toArray⟩ (x.length+1)).length:=by unfold wordsOf;simp [du]
    rw [<-this];simpa using hl
   have hx:(⟨x.toArray⟩:Str).length=x.length:=by simp [du]
   refine iC jV rfl PySem.F.entry_str_split (PySem.F.args_str_split_1 _) (meets_str_split_space ⟨x.toArray⟩ t (by rw [hx];exact bw hs pe) (by rw [hx];exact bw hlen pe)) ?_;rw [hx,if_neg Rl];refine sw (vs:=strsFrom s.toks (wordsOf ⟨x.toArray⟩)) hw ?_ hl rfl;clear hl e hlen Rl;generalize s.toks=tk;generalize wordsOf ⟨x.toArray⟩=l at Qy ⊢;induction l generalizing tk with | nil=>rw [iU];dsimp only [Qo];rfl | cons y l ih=>simp only [ez,ai,decide_eq_true_eq] at Qy;rw [aB];dsimp only [Qo,Rd];refine ⟨_,_,rfl,⟨by simpa [du] using Qy.1,tk,?_⟩,ih (tk+1) Qy.2⟩;simp
  ·cases e
theorem Bu:∀ (c:Nat),∀ x:List Nat,cnt c x=sU c x:=by iterate 1
 intro x;induction x with
 | nil=>exact rfl
 | cons n r Qj=>
  rw [cnt_cons,Qj];unfold sU;rw [jb];by_cases h:n=c
  ·simp [h];omega
  ·simp [h]
theorem Cq:∀ {x:List Nat} {c:Nat} {va:ag} {vs:List ag} (ha:Rd J W.F W.as (.str x) va) (h:Qo J W.F W.as [.str [c]] vs) (hw:Qn J W s),Ex J A (call (.builtin "str.count") (va::vs)) X W s (li J (.int (sU c x)) W.H):=by iterate 7
 obtain ⟨v,rfl,hv⟩:=qC h;dsimp only [Rd] at ha hv;obtain ⟨hs,t,rfl⟩:=ha;obtain ⟨_,u,rfl⟩:=hv;refine SC.count ?_;have:Txt.count ⟨x.toArray⟩ ⟨[c].toArray⟩=sU c x:=by rw [<-Bu];exact count_is ⟨x.toArray⟩ c
 rw [this];exact nw hw
theorem AX:∀ {xs:List D} {l:List Int} {i:Int} {va:ag} {vs:List ag} (e:sQ xs=some l) (ha:Rd J W.F W.as (.lst xs) va) (h:Qo J W.F W.as [.int i] vs) (hw:Qn J W s),Ex J A (call (.builtin "list.count") (va::vs)) X W s (li J (.int ((l.filter (· ==i)).length)) W.H):=by iterate 9 obtain ⟨v,rfl,hv⟩:=qC h;obtain ⟨hl,a1,ws,n1,s1,rfl,e1,r1⟩:=io ha;dsimp only [Rd] at hv;obtain ⟨t,rfl⟩:=hv;refine count_list_ints (ns:=l) ⟨_,hw.sub _ _ e1,rfl,n1,rfl⟩ (yb e r1) ?_;rw [<-List.countP_eq_length_filter];exact nw hw
theorem GK:∀ {Qx:List (Int×Int)} {k d:Int} {va:ag} {vs:List ag} (ha:Rd J W.F W.as (.QC Qx) va) (h:Qo J W.F W.as [.int k,.int d] vs) (hw:Qn J W s),Ex J A (call (.builtin "dict.get") (va::vs)) X W s (li J (.int ((Qx.lookup k).getD d)) W.H):=by iterate 8
 obtain ⟨v,u,rfl,hv,h'⟩:=uH h;dsimp only [Rd] at ha hv h';obtain ⟨t,rfl⟩:=hv;obtain ⟨t',rfl⟩:=h';obtain ⟨hl,a,rfl,hn,p⟩:=ha;obtain ⟨ws,hm,q⟩:=TK.dictOf p hw.sub;have q:=rT q k;refine call_meetsIn eI (fu hm.mapOf) jW (jK _ _ _) (lR (IK J) (k:=k) a ?_ hn _) ?_
 ·exact decide_eq_true rfl
 ·refine ⟨_,hm.mapOf,?_⟩;cases e:Qx.lookup k with | none=>rw [q.2 e];exact nw hw | some i=>obtain ⟨t2,e2⟩:=q.1 i e;rw [e2];exact nw hw
theorem EE:∀ {i:Int} {va:ag} (ha:Rd J W.F W.as (.int i) va) (hw:Qn J W s),Ex J A (call (.builtin "int.bit_length") [va]) X W s (li J (.int (dL i.natAbs)) W.H):=by iterate 4
 dsimp only [Rd] at ha;obtain ⟨t,rfl⟩:=ha;refine call_int_bit_length ?_;have:gL i=dL i.natAbs:=by
  unfold gL dL;by_cases h:i=0
  ·subst h;rfl
  ·have h2:i.natAbs≠0:=by omega
   simp [h]
 rw [this];exact nw hw
end
noncomputable def RB (h:Heap) (env:Env) (x:Str) (v:ag):Prop:=
 (env.kindOf x=some .local/\∃ m,h.Ns env.locals m/\m x=some v)\/
 ((env.kindOf x=some .cell\/env.kindOf x=some .free)/\∃ c,env.cells.lookup x=some c/\h.IsCell c (some v))
noncomputable def am (env:Env):List Addr:=env.locals::env.cells.map (·.2)
noncomputable def Ro (env:Env) (a:Addr):Prop:=a∈am env/\a≠env.locals/\∀ x,env.cells.lookup x=some a->env.kindOf x=some .free
noncomputable def QN (J:Cx) (W:Wd) (h:Heap):OW->Addr->Prop
| .lst xs,a=>xs.length<=lim/\∃ vs,bS h a vs/\Qo J W.F W.as xs vs.toList
| .QC Qx,a=>Qx.length<=lim/\(a==iB)=false/\∃ ws,h.DictOf (IK J) a ws/\RX ws Qx
structure Ql (J:Cx) (W:Wd) (h:Heap) (sc:aX) (st:St) (env:Env) (ow:List Addr):Prop where
 kind:env.scope.kind= .function
 glob:env.globals=bC
 bi:env.builtins=bU
 kd:∀ x k,sc.names.lookup x=some k->env.kindOf x=some k\/(k= .free/\env.kindOf x=some .cell)
 ns:∃ m,h.Ns env.locals m
 vars:∀ x d,varD sc st x=some d->∃ v,RB h env x v/\Rd J W.F W.as d v
 cells:∀ x,yz sc x=true->∃ c v,env.cells.lookup x=some c/\h.IsCell c v
 inj:∀ x y c,env.cells.lookup x=some c->env.cells.lookup y=some c->x=y
 Rr:∀ x c,env.cells.lookup x=some c->c≠env.locals
 apart:∀ a∈am env++ow,(W.F a=none\/Ro env a)/\a∉J.T/\a∉W.QF.flatten/\∃ o,h.get? a=some o
 own:∀ x o,st.own=some (x,o)->pK sc x=true/\∃ a,ow=[a]/\a∉am env/\RB h env x (.ref a)/\QN J W h o a
 Rc:∀ x o,st.own=some (x,o)->varD sc st x=none
theorem al:∀ {α β:Type} {x:α} {b:β} [BEq α] [LawfulBEq α],∀ {l:List (α×β)},l.lookup x=some b->(x,b)∈l:=by iterate 6
 intro l;induction l with
 | nil=>intro h;simp at h
 | cons Rv r Qj=>obtain ⟨y,c⟩:=Rv;intro h;rw [aY] at h;cases e:x==y with | true=>rw [e] at h;simp at h;subst h;rw [eq_of_beq e];simp | false=>rw [e] at h;simp at h;exact av _ (Qj h)
section
variable {J:Cx} {A:bf} {W:Wd} {s:ah} {X:List Addr} {sc:aX} {st:St} {env:Env} {ow:List Addr} {h:Heap}
theorem RB.keep:∀ {h':Heap} {x:Str} {v:ag} (ahb:RB h env x v) (k:∀ a∈am env,∀ o,h.get? a=some o->h'.get? a=some o),RB h' env x v:=by iterate 5
 rcases ahb with ⟨e,m,n,r⟩ | ⟨e,c,n,r⟩
 ·exact .inl ⟨e,m,Ns.keep n (k _ (by simp [am])),r⟩
 ·obtain ⟨o,e1,e2⟩:=r;exact .inr ⟨e,c,n,o,k _ (av _ (aH.mpr ⟨(x,c),al n,rfl⟩)) _ e1,e2⟩
theorem QN.keep:∀ {W':Wd} {h':Heap} {o:OW} {a:Addr} (ahb:QN J W h o a) (hF:PM.le W.F W'.F) (hA:Pre W.as W'.as) (k:∀ o,h.get? a=some o->h'.get? a=some o),QN J W' h' o a:=by iterate 8 cases o with | lst xs=>obtain ⟨l,vs,p,r⟩:=ahb;exact ⟨l,vs,bS.keep p k,r.mono hF hA⟩ | QC Qx=>obtain ⟨l,n,ws,⟨o,es,ep,e,r⟩,q⟩:=ahb;exact ⟨l,n,ws,⟨o,es,ep,k _ e,r⟩,q⟩
theorem Ql.U2:∀ {W':Wd} {s':ah} (ahb:Ql J W s.heap sc st env ow) (k:∀ a∈am env++ow,∀ o,s.heap.get? a=some o->s'.heap.get? a=some o) (hF:PM.le W.F W'.F) (hA:Pre W.as W'.as) (hf:∀ a o,W'.F a=some o->W.F a=some o\/s.heap.get? a=none) (hp:∀ a∈W'.QF.flatten,a∈W.QF.flatten\/s.heap.get? a=none),Ql J W' s'.heap sc st env ow:=by iterate 8
 exact {
  kind:=ahb.kind
  glob:=ahb.glob
  bi:=ahb.bi
  kd:=ahb.kd
  ns:=by obtain ⟨m,e⟩:=ahb.ns;exact ⟨m,Ns.keep e (k _ (by simp [am]))⟩
  vars:=fun x d e=>(by obtain ⟨v,h1,h2⟩:=ahb.vars x d e;exact ⟨v,h1.keep fun a ha=>k a (aE _ ha),h2.mono hF hA⟩)
  cells:=fun x e=>by obtain ⟨c,v,h1,o,h2,h3⟩:=ahb.cells x e;exact ⟨c,v,h1,o,k _ (aE _ (av _ (aH.mpr ⟨(x,c),al h1,rfl⟩))) _ h2,h3⟩
  inj:=ahb.inj
  Rr:=ahb.Rr
  apart:=fun a ha=>by
   obtain ⟨h1,h2,h3,o,h4⟩:=ahb.apart a ha;refine ⟨h1.imp (fun h1=>?_) id,h2,fun hm=>?_,o,k a ha o h4⟩
   ·cases e:W'.F a with
    | none=>rfl
    | some o'=>
     rcases hf a o' e with q | q
     ·rw [h1] at q;cases q
     ·rw [h4] at q;cases q
   ·rcases hp a hm with q | q
    ·exact h3 q
    ·rw [h4] at q;cases q
  own:=fun x o e=>by obtain ⟨l,a,h1,h2,h3,h4⟩:=ahb.own x o e;exact ⟨l,a,h1,h2,h3.keep fun b hb=>k b (aE _ hb),h4.keep hF hA (k a (by rw [h1];simp))⟩
  Rc:=ahb.Rc}
theorem Ql.Wv:∀ (ahb:Ql J W h sc st env ow),W.F env.locals=none:=by iterate 1
 rcases (ahb.apart env.locals (by simp [am])).1 with h | h
 ·exact h
 ·exact absurd rfl h.2.1
theorem Ql.Vx:∀ {x:Str} {c:Addr} (ahb:Ql J W h sc st env ow) (e:env.cells.lookup x=some c) (hk:env.kindOf x=some .cell),W.F c=none:=by iterate 5
 rcases (ahb.apart c (aE _ (av _ (aH.mpr ⟨(x,c),al e,rfl⟩)))).1 with h | h
 ·exact h
 ·rw [h.2.2 x e] at hk;cases hk
theorem Ql.Wu:∀ {a:Addr} (ahb:Ql J W h sc st env ow) (ha:a∈ow) (hn:a∉am env),W.F a=none:=by iterate 4
 rcases (ahb.apart a (cU _ ha)).1 with h | h
 ·exact h
 ·exact absurd h.1 hn
theorem Ql.keep:∀ {W':Wd} {s':ah} (ahb:Ql J W s.heap sc st env ow) (t:Qk J X W s W' s') (hX:∀ a∈am env++ow,a∉X),Ql J W' s'.heap sc st env ow:=by iterate 5 exact (ahb.U2 (fun a ha o e=>let z:=ahb.apart a ha;t.keep a o z.2.1 z.2.2.1 (hX a ha) e) t.le t.as t.fresh t.QF)
theorem Ql.QB:∀ {W':Wd} {s':ah} (ahb:Ql J W s.heap sc st env ow) (t:Qk J [] W s W' s'),Ql J W' s'.heap sc st env ow:=by iterate 4 exact (ahb.keep t (by simp))
theorem Qn.sameBut:∀ {a:Addr} {h':Heap} {tk:Nat} (hw:Qn J W s) (sb:bW a s.heap h') (ha:W.F a=none/\a∉J.T/\a∉W.QF.flatten) (hn:∃ o,h'.get? a=some o),Qk J [a] W s W {s with heap:=h',toks:=tk}:=by iterate 7
 exact (Qk.grow (s':={s with heap:=h',toks:=tk}) hw (fun b o hb e=>by show h'.get? b=some o;rw [sb.2 b (by simpa using hb)];exact e)
  (fun b o e=>by
   by_cases q:b=a
   ·subst q;exact hn
   ·exact ⟨o,(sb.2 b q).trans e⟩) (by simpa using ha) rfl rfl)
theorem Qn.extBut:∀ {a:Addr} {h':Heap} {tk:Nat} (hw:Qn J W s) (sb:fw a s.heap h') (ha:W.F a=none/\a∉J.T/\a∉W.QF.flatten) (hn:s.heap.get? a=none\/∃ o,h'.get? a=some o),Qk J [a] W s W {s with heap:=h',toks:=tk}:=by iterate 7
 exact (Qk.grow (s':={s with heap:=h',toks:=tk}) hw (fun b o hb e=>sb b o (by simpa using hb) e)
  (fun b o e=>by
   by_cases q:b=a
   ·subst q;rcases hn with hn | hn
    ·rw [hn] at e;cases e
    ·exact hn
   ·exact ⟨o,sb b o q e⟩) (by simpa using ha) rfl rfl)
theorem Qn.SJ:∀ {h':Heap} {tk:Nat} (hw:Qn J W s) (sb:fw s.heap.objs.size s.heap h'),Qk J [] W s W {s with heap:=h',toks:=tk}:=by iterate 4 exact ((hw.extBut sb (hw.QL (bn _)) (.inl (bn _))).weaken (by intro a ha;simp at ha;subst ha;exact .inr (bn _)))
theorem Ns.det:∀ {a:Addr} {m m':Str->Option ag} (p:h.Ns a m) (q:h.Ns a m'),m=m':=by iterate 5 obtain ⟨o,es,ep,e1,e2,_,e3⟩:=p;obtain ⟨o',es',ep',f1,f2,_,f3⟩:=q;rw [e1] at f1;cases f1;rw [e2] at f2;cases f2;funext x;rw [<-e3,<-f3]
theorem qi:∀ {x y:Str} {d:D} {ρ:Qm} (h:y≠x),cG y ((x,d)::ρ)=ρ.lookup y:=by iterate 5
 rw [aY];have:(y==x)=false:=by simpa using h
 rw [this]
theorem qd:∀ {x:Str} {d:D} {ρ:Qm},cG x ((x,d)::ρ)=some d:=by iterate 3 rw [aY];simp
theorem yI:∀ {x:Str} {d:D} (y:Str) (hy:y≠x),varD sc (st.withRho ((x,d)::st.ρ)) y=varD sc st y:=by iterate 4 unfold varD St.withRho;cases e:sc.names.lookup y with | none=>rfl | some k=>cases k<;>simp only [qi hy]
noncomputable def QX (sc:aX) (env:Env) (Y:List Addr) (x:Str):Prop:=(sc.names.lookup x=some .local->env.locals∈Y)/\(sc.names.lookup x=some .cell->∀ c,env.cells.lookup x=some c->c∈Y)
theorem QX.frame:∀ {x:Str},QX sc env (am env) x:=by iterate 1 exact (⟨fun _=>by simp [am],fun _ c h=>av _ (aH.mpr ⟨(x,c),al h,rfl⟩)⟩)
theorem xE:∀ {sc:aX} {x:Str} (h:pK sc x=true),sc.names.lookup x=some .local\/sc.names.lookup x=some .cell:=by iterate 3
 unfold pK at h;cases q:sc.names.lookup x with
 | none=>rw [q] at h;cases h
 | some k=>rw [q] at h;cases k<;>first | exact .inl rfl | exact .inr rfl | cases h
theorem BJ:∀ {sc:aX} {x:Str} (h:yz sc x=true),sc.names.lookup x=some .free\/sc.names.lookup x=some .cell:=by iterate 3
 unfold yz at h;cases q:sc.names.lookup x with
 | none=>rw [q] at h;cases h
 | some k=>rw [q] at h;cases k<;>first | exact .inl rfl | exact .inr rfl | cases h
theorem zu:∀ {sc:aX} {st:St} {x:Str} {d:D} (h:varD sc st x=some d),(sc.names.lookup x=some .free/\st.up.lookup x=some d)\/(sc.names.lookup x=some .local/\st.ρ.lookup x=some d)\/(sc.names.lookup x=some .cell/\st.ρ.lookup x=some d):=by iterate 5
 unfold varD at h;cases q:sc.names.lookup x with
 | none=>rw [q] at h;cases h
 | some k=>rw [q] at h;cases k<;>first | exact .inl ⟨rfl,h⟩ | exact .inr (.inl ⟨rfl,h⟩) | exact .inr (.inr ⟨rfl,h⟩) | cases h
theorem zi:∀ {x:Str} {v:ag} {Y:List Addr} (ahb:Ql J W s.heap sc st env ow) (hw:Qn J W s) (hx:pK sc x=true) (hY:QX sc env Y x),aD (aC P0 J.w) A (gV env x v) (fun _ s'=>Qk J Y W s W s'/\(∃ m,s'.heap.Ns env.locals m)/\RB s'.heap env x v/\(∀ y u,y≠x->RB s.heap env y u->RB s'.heap env y u)/\
   (∀ y,yz sc y=true->∃ c v,env.cells.lookup y=some c/\s'.heap.IsCell c v)/\(∀ a,a∉am env->∀ o,s.heap.get? a=some o->s'.heap.get? a=some o)/\∀ a∈am env,∃ o,s'.heap.get? a=some o) (fun _ _=>False) s:=by iterate 7
 have hk:(env.kindOf x=some .local/\env.locals∈Y)\/(env.kindOf x=some .cell/\yz sc x=true/\∀ c,env.cells.lookup x=some c->c∈Y):=by
  rcases xE hx with e | e
  ·rcases ahb.kd _ _ e with h | ⟨h,_⟩
   ·exact .inl ⟨h,hY.1 e⟩
   ·cases h
  ·rcases ahb.kd _ _ e with h | ⟨h,_⟩
   ·exact .inr ⟨h,by unfold yz;rw [e],hY.2 e⟩
   ·cases h
 have fin:∀ (a:Addr) (h':Heap) (tk:Nat),a∈am env->W.F a=none->a∈Y->bW a s.heap h'->(∃ o,h'.get? a=some o)->(∃ m,h'.Ns env.locals m)->RB h' env x v->(∀ y u,y≠x->RB s.heap env y u->RB h' env y u)->
   (∀ y,yz sc y=true->∃ c v,env.cells.lookup y=some c/\h'.IsCell c v)->
   Qk J Y W s W {s with heap:=h',toks:=tk}/\(∃ m,h'.Ns env.locals m)/\RB h' env x v/\(∀ y u,y≠x->RB s.heap env y u->RB h' env y u)/\
   (∀ y,yz sc y=true->∃ c v,env.cells.lookup y=some c/\h'.IsCell c v)/\(∀ a,a∉am env->∀ o,s.heap.get? a=some o->h'.get? a=some o)/\∀ a∈am env,∃ o,h'.get? a=some o:=by
  intro a h' tk ha hFa hay sb he h1 h2 h3 h4;have z:=ahb.apart a (aE _ ha);refine ⟨(hw.sameBut sb ⟨hFa,z.2.1,z.2.2.1⟩ he).weaken (by intro b hb;simp at hb;subst hb;exact .inl hay),h1,h2,h3,h4,fun b hb o e=>?_,fun b hb=>?_⟩
  ·rw [sb.2 b (fun q=>hb (q▸ha))];exact e
  ·by_cases q:b=a
   ·subst q;exact he
   ·obtain ⟨_,_,_,o,e⟩:=ahb.apart b (aE _ hb);exact ⟨o,(sb.2 b q).trans e⟩
 rcases hk with ⟨hk,hY⟩ | ⟨hk,Vn,hY⟩
 ·obtain ⟨m,hn⟩:=ahb.ns;refine fh hk hn (fun h' VB sb=>?_) (by rw [ahb.kind];rfl);have ne:∀ y c,env.cells.lookup y=some c->c≠env.locals:=ahb.Rr;refine fin env.locals h' _ (by simp [am]) ahb.Wv hY sb (by obtain ⟨o,_,_,e,_⟩:=VB;exact ⟨o,e⟩) ⟨_,VB⟩ (.inl ⟨hk,_,VB,by simp⟩) (fun y u hy hv=>?_) fun y hy=>?_
  ·rcases hv with ⟨e,m2,n2,r⟩ | ⟨e,c,n2,r⟩
   ·refine .inl ⟨e,_,VB,?_⟩;rw [Ns.det hn n2];simp [hy,r]
   ·exact .inr ⟨e,c,n2,r.sameBut sb (ne _ _ n2)⟩
  ·obtain ⟨c,v,h1,h2⟩:=ahb.cells y hy;exact ⟨c,v,h1,h2.sameBut sb (ne _ _ h1)⟩
 ·obtain ⟨m,hn⟩:=ahb.ns;obtain ⟨c,v0,h1,h2⟩:=ahb.cells x Vn;refine wpAny_storeName_cell ahb.kind hk h1 h2 (fun h' hc sb=>?_);have hcm:c∈am env:=av _ (aH.mpr ⟨(x,c),al h1,rfl⟩);have ne:=ahb.Rr _ _ h1;have VB:h'.Ns env.locals m:=hn.sameBut sb (dz ne);refine fin c h' _ hcm (ahb.Vx h1 hk) (hY c h1) sb (by obtain ⟨o,e,_⟩:=hc;exact ⟨o,e⟩) ⟨_,VB⟩ (.inr ⟨.inl hk,c,h1,hc⟩) (fun y u hy hv=>?_) fun y hy=>?_
  ·rcases hv with ⟨e,m2,n2,r⟩ | ⟨e,c2,n2,r⟩
   ·exact .inl ⟨e,_,n2.sameBut sb (dz ne),r⟩
   ·exact .inr ⟨e,c2,n2,r.sameBut sb (fun q=>hy (ahb.inj _ _ _ n2 (q▸h1)))⟩
  ·by_cases q:y=x
   ·subst q;exact ⟨c,_,h1,hc⟩
   ·obtain ⟨c2,v2,e1,e2⟩:=ahb.cells y hy;exact ⟨c2,v2,e1,e2.sameBut sb (fun z=>q (ahb.inj _ _ _ e1 (z▸h1)))⟩
theorem yM:∀ {x y:Str} {o:OW} (h:oO st x=true) (e:st.own=some (y,o)),y≠x:=by iterate 5 unfold oO at h;rw [e] at h;simpa using h
theorem vB:∀ {x:Str} {v:ag} {d:D} {Y:List Addr} (ahb:Ql J W s.heap sc st env ow) (hw:Qn J W s) (hx:pK sc x=true) (hd:Rd J W.F W.as d v) (Tz:oO st x=true) (hY:QX sc env Y x),aD (aC P0 J.w) A (gV env x v) (fun _ s'=>Qk J Y W s W s'/\Ql J W s'.heap sc (st.withRho ((x,d)::st.ρ)) env ow) (fun _ _=>False) s:=by iterate 10
 refine af (zi (v:=v) ahb hw hx hY) (fun _ s' y0=>?_) fun _ _ e=>e;obtain ⟨k,h1,h2,h3,h4,h5,h6⟩:=y0;refine ⟨k,?_⟩;have ap:∀ a∈am env++ow,(W.F a=none\/Ro env a)/\a∉J.T/\a∉W.QF.flatten/\∃ o,s'.heap.get? a=some o:=fun a ha=>by
  obtain ⟨z1,z2,z3,o,z4⟩:=ahb.apart a ha;refine ⟨z1,z2,z3,?_⟩;by_cases q:a∈am env
  ·exact h6 a q
  ·exact ⟨o,h5 a q o z4⟩
 exact {
  kind:=ahb.kind
  glob:=ahb.glob
  bi:=ahb.bi
  kd:=ahb.kd
  ns:=h1
  vars:=fun y e he=>by
   by_cases q:y=x
   ·subst q;have:e=d:=by
     unfold varD St.withRho at he;rcases xE hx with w | w
     ·rw [w] at he;simp only [qd] at he;exact (bh he).symm
     ·rw [w] at he;simp only [qd] at he;exact (bh he).symm
    subst this;exact ⟨v,h2,hd⟩
   ·rw [yI y q] at he;obtain ⟨u,e1,e2⟩:=ahb.vars y e he;exact ⟨u,h3 y u q e1,e2⟩
  cells:=h4
  inj:=ahb.inj
  Rr:=ahb.Rr
  apart:=ap
  own:=fun y o e=>by have ny:=yM Tz e;obtain ⟨l,a,e1,e2,e3,e4⟩:=ahb.own y o e;exact ⟨l,a,e1,e2,h3 y _ ny e3,e4.keep (PM.le.refl _) (Pre.refl _) (h5 a e2)⟩
  Rc:=fun y o e=>by have ny:=yM Tz e;rw [yI y ny];exact ahb.Rc y o e}
end
noncomputable def F0 (J:Cx):PM:=fun a=>if a∈J.T then none else J.QZ.get? a
noncomputable def Qv (F:PM) (code:ag) (q:Str):Prop:=∃ c o vs t,code= .ref c/\F c=some o/\o.data= .fields vs/\vs[1]? =some (.str q t)
noncomputable def wl (fn:Fn):Bool:=fn.scope.kind== .function&&!fn.scope.isCoroutine&&!fn.scope.isGenerator&&fn.params.all (pK fn.scope)&&cr fn.params&&
 cr (fn.scope.names.map (·.1))&&fn.scope.names.all fun p=>!(p.2== .free)
structure FnAt (J:Cx) (F:PM) (a:Addr) (fn:Fn):Prop where
 obj:∃ o fd,F a=some o/\o.data= .func fd/\fd.body= .stmts fn.body/\fd.scope=fn.scope/\fd.globals=bC/\fd.closure=[]/\fd.builtins=bU/\Qv F fd.code fd.qualname/\
  ∀ vs:List ag,vs.length=fn.params.length->iD fd ⟨vs,[]⟩=pure (fn.params.zip vs)
 good:wl fn=true
noncomputable def ro:List Str:=["range","list","enumerate"]
noncomputable def QM:List Str:=["len","sum","isinstance","divmod","iter"]
structure Fx (J:Cx):Prop where
 Ut:∀ h:Heap,(∀ a o,F0 J a=some o->h.get? a=some o)->yc J h
 WA:∃ o,F0 J iB=some o
 SD:∃ mc,Ud (F0 J) cStatics mc/\mc (bB "sys.recursionlimit")=none
 glob:∃ mg mb,Ud (F0 J) bC mg/\Ud (F0 J) bU mb/\
  (∀ x i,ua P0 x=some i->∃ t,mg x=some (.int i t))/\mg "EXACT_TOKEN_TYPES" =some (.ref J.UR)/\mg "int" =none/\mb "int" =some (.type "int")/\
  (∀ x∈QM,mg x=none/\mb x=some (.builtin x.toString))/\(∀ x∈ro,mg x=none/\mb x=some (.type x.toString))/\mg "reversed" =none/\mb "reversed" =some (.type "reversed")/\
  mg "_netrclex" =some (.ref J.cls)/\∀ f fn,o8 P0 f=some fn->∃ a,mg f=some (.ref a)/\(fn.scope.isGenerator=false->FnAt J (F0 J) a fn)
section
variable {J:Cx} {A:bf} {W:Wd} {s:ah} {X:List Addr} {sc:aX} {st:St} {env:Env} {ow:List Addr} {h:Heap}
theorem Ud.ns {F:PM} {a:Addr} {m} (ahb:Ud F a m) (k:∀ b o,F b=some o->h.get? b=some o):h.Ns a m:=by obtain ⟨o,es,ep,e,r⟩:=ahb;exact ⟨o,es,ep,k _ _ e,r⟩
theorem Qn.le0:∀ (hw:Qn J W s),PM.le (F0 J) W.F:=by iterate 1
 exact (fun a o e=>by
 unfold F0 at e;split at e
 ·cases e
 ·rename_i hn;exact hw.base a o hn e)
theorem Qn.Qw:∀ (hw:Qn J W s),∀ a o,F0 J a=some o->s.heap.get? a=some o:=by iterate 1 exact (fun a o e=>hw.sub a o (hw.le0 a o e))
theorem tn:∀ {names:List (Str×eN)} (h:names.all (fun p=>!(p.2== .free))=true) (x:Str),names.lookup x≠some .free:=by iterate 3
 exact (fun e=>by
 have:=ak.mp h _ (al e);simp at this)
theorem sm:∀ {x:Str},∀ (names:List (Str×eN)) (n:Nat) (acc:List (Str×Addr)),((x,fV)∈names\/(acc.lookup x).isSome=true)->((iw n names acc).lookup x).isSome=true:=by iterate 1
 intro names;induction names with
 | nil=>
  intro _ acc h;rcases h with h | h
  ·simp at h
  ·exact h
 | cons Rv r Qj=>
  obtain ⟨y,k⟩:=Rv;intro n acc h;unfold iw;split
  ·rename_i hk;refine Qj _ _ ?_;rcases h with h | h
   ·rcases aq.mp h with h | h
    ·cases h;right;simp [aY]
    ·exact .inl h
   ·right;rw [aY];cases x==y<;>simp [h]
  ·rename_i hk;refine Qj _ _ ?_;rcases h with h | h
   ·rcases aq.mp h with h | h
    ·cases h;exact absurd rfl hk
    ·exact .inl h
   ·exact .inr h
theorem vZ:∀ (names:List (Str×eN)) (n:Nat) (acc:List (Str×Addr)),cr (names.map (·.1))=true->(∀ y∈names.map (·.1),y∉acc.map (·.1))->(∀ x c,(x,c)∈acc->acc.lookup x=some c)->
  ∀ x c,(x,c)∈iw n names acc->(iw n names acc).lookup x=some c:=by iterate 0
 intro names;induction names with
 | nil=>intro _ acc _ _ h x c hm;exact h x c hm
 | cons Rv r Qj=>
  obtain ⟨y,k⟩:=Rv;intro n acc hd hn h x c hm;rw [aB] at hd;dsimp only [cr] at hd;simp only [ai,bG,c7,decide_eq_false_iff_not] at hd;unfold iw at hm ⊢;split at hm
  ·rename_i hk;rw [if_pos hk];refine Qj _ _ hd.2 (fun z hz VK=>?_) (fun z c' hz=>?_) x c hm
   ·rw [aB] at VK;rcases aq.mp VK with e | e
    ·subst e;exact hd.1 hz
    ·exact hn z (av _ hz) e
   ·rw [aY];rcases aq.mp hz with e | e
    ·cases e;simp
    ·have:z≠y:=fun q=>hn y (by simp) (q▸aH.mpr ⟨(z,c'),e,rfl⟩);have q:(z==y)=false:=by simpa using this
     rw [q];exact h z c' e
  ·rename_i hk;rw [if_neg hk];exact Qj _ _ hd.2 (fun z hz=>hn z (av _ hz)) h x c hm
theorem G6:∀ {kindOf:Str->Option eN},∀ {ps:List Str} {vs:List ag} {m:Str->Option ag},cr ps=true->
  (∀ x,x∉ps->bindL kindOf (ps.zip vs) m x=m x)/\∀ (i:Nat) x v,ps[i]? =some x->vs[i]? =some v->kindOf x=some .local->bindL kindOf (ps.zip vs) m x=some v:=by iterate 1
 intro ps;induction ps with
 | nil=>intro vs m _;exact ⟨fun _ _=>rfl,fun i x v h=>by simp at h⟩
 | cons p ps Qj=>
  intro vs m hd;cases vs with
  | nil=>exact ⟨fun _ _=>rfl,fun i x v _ h=>by simp at h⟩
  | cons u vs=>
   dsimp only [cr] at hd;simp only [ai,bG,c7,decide_eq_false_iff_not] at hd;have ih:=Qj (vs:=vs) (m:=if kindOf p=some .local then fun y=>if y=p then some u else m y else m) hd.2;refine ⟨fun x hx=>?_,fun i x v h1 h2 hk=>?_⟩
   ·simp only [aq,not_or] at hx;show bindL kindOf (ps.zip vs) _ x=m x;rw [ih.1 x hx.2];split<;>simp [hx.1]
   ·cases i with | zero=>simp at h1 h2;subst h1;subst h2;show bindL kindOf (ps.zip vs) _ p=some u;rw [ih.1 p hd.1,if_pos hk];simp | succ i=>exact ih.2 i x v (by simpa using h1) (by simpa using h2) hk
theorem Gt:∀ {kindOf:Str->Option eN},∀ {ps:List Str} {vs:List ag} {m:Str->Option ag},cr ps=true->
  (∀ x,x∉ps->bindC kindOf (ps.zip vs) m x=m x)/\∀ (i:Nat) x v,ps[i]? =some x->vs[i]? =some v->kindOf x≠some .local->bindC kindOf (ps.zip vs) m x=some v:=by iterate 1
 intro ps;induction ps with
 | nil=>intro vs m _;exact ⟨fun _ _=>rfl,fun i x v h=>by simp at h⟩
 | cons p ps Qj=>
  intro vs m hd;cases vs with
  | nil=>exact ⟨fun _ _=>rfl,fun i x v _ h=>by simp at h⟩
  | cons u vs=>
   dsimp only [cr] at hd;simp only [ai,bG,c7,decide_eq_false_iff_not] at hd;have ih:=Qj (vs:=vs) (m:=if kindOf p=some .local then m else fun y=>if y=p then some u else m y) hd.2;refine ⟨fun x hx=>?_,fun i x v h1 h2 hk=>?_⟩
   ·simp only [aq,not_or] at hx;show bindC kindOf (ps.zip vs) _ x=m x;rw [ih.1 x hx.2];split<;>simp [hx.1]
   ·cases i with | zero=>simp at h1 h2;subst h1;subst h2;show bindC kindOf (ps.zip vs) _ p=some u;rw [ih.1 p hd.1,if_neg hk];simp | succ i=>exact ih.2 i x v (by simpa using h1) (by simpa using h2) hk
theorem uE:∀ {x:Str} {d:D},∀ {ps:List Str} {ds:List D},(ps.zip ds).lookup x=some d->∃ i:Nat,ps[i]? =some x/\ds[i]? =some d:=by iterate 2
 intro ps;induction ps with
 | nil=>intro _ h;simp at h
 | cons p ps Qj=>
  intro ds h;cases ds with
  | nil=>simp at h
  | cons e ds=>rw [fH,aY] at h;cases q:x==p with | true=>rw [q] at h;simp at h;subst h;exact ⟨0,by simp [eq_of_beq q],by simp⟩ | false=>rw [q] at h;obtain ⟨i,h1,h2⟩:=Qj h;exact ⟨i+1,by simpa using h1,by simpa using h2⟩
theorem zY:∀ {l:List (Str×Addr)} {p q:Str×Addr} (h:l.Pairwise fun x y=>x.2≠y.2) (hp:p∈l) (hq:q∈l) (e:p.2=q.2),p=q:=by iterate 7
 induction l with
 | nil=>simp at hp
 | cons x l ih=>
  rw [List.pairwise_cons] at h;rcases aq.mp hp with rfl | Wi<;>rcases aq.mp hq with rfl | hq'
  ·rfl
  ·exact absurd e (h.1 q hq')
  ·exact absurd e.symm (h.1 p Wi)
  ·exact ih h.2 Wi hq'
theorem G0:∀ {fn:Fn} {a:Addr} {ds:List D} {vs:List ag} {fd:eO} {Qg:ah} (hw:Qn J W s) (hd:Qo J W.F W.as ds vs) (hlen:fn.params.length=ds.length) (hg:wl fn=true) (U9:fd.scope=fn.scope) (hgl:fd.globals=bC) (VY:fd.builtins=bU) (x:InCallC s (fc fd s.heap.objs.size a).locals (bindL (fc fd s.heap.objs.size a).kindOf (fn.params.zip vs) fun _=>none) (fc fd s.heap.objs.size a).cells
    (bindC (fc fd s.heap.objs.size a).kindOf (fn.params.zip vs) fun _=>none) Qg),Qk J [] W s W Qg/\Ql J W Qg.heap fn.scope ⟨fn.params.zip ds,[],none⟩ (fc fd s.heap.objs.size a) []/\∀ b∈am (fc fd s.heap.objs.size a),s.heap.get? b=none:=by iterate 14
 simp only [wl,ai] at hg;obtain ⟨⟨⟨⟨⟨⟨g1,g2⟩,g3⟩,g4⟩,g5⟩,g7⟩,g6⟩:=hg;have hk:(fc fd s.heap.objs.size a).kindOf=fun x=>fn.scope.names.lookup x:=by funext y;show fd.scope.names.lookup y=_;rw [U9]
 have Ub:(fc fd s.heap.objs.size a).cells=iw (s.heap.objs.size+1) fn.scope.names []:=by show iw (s.heap.objs.size+1) fd.scope.names []=_;rw [U9]
 have XP:=hd.length;have fresh:∀ b∈am (fc fd s.heap.objs.size a),s.heap.get? b=none:=fun b hb=>by
  refine ik ?_;rcases aq.mp hb with rfl | hb
  ·exact x.toInCall.fresh
  ·obtain ⟨p,hp,rfl⟩:=aH.mp hb;exact fU (iJ x.toInCall.fresh (x.above p.1 p.2 hp))
 obtain ⟨h',tk,hs⟩:=x.toInCall.same;have tr:Qk J [] W s W Qg:=by subst hs;exact Qk.grow (X:=[]) hw (fun b o _ e=>x.toInCall.keep b o e) (fun b o e=>⟨o,x.toInCall.keep b o e⟩) (by simp) rfl rfl
 refine ⟨tr,?_,fresh⟩;exact {
  kind:=by show fd.scope.kind=_;rw [U9];simpa using g1
  glob:=hgl
  bi:=VY
  kd:=fun y k e=> .inl (by rw [hk];exact e)
  ns:=⟨_,x.toInCall.ns⟩
  vars:=fun y d e=>by
   rcases zu e with ⟨q,e⟩ | ⟨q,e⟩ | ⟨q,e⟩
   ·exact absurd q (tn g6 y)
   ·obtain ⟨i,h1,h2⟩:=uE e;obtain ⟨v,h3,h4⟩:=hd.get h2;refine ⟨v,.inl ⟨by rw [hk];exact q,_,x.toInCall.ns,(G6 g5).2 i y v h1 h3 (by rw [hk];exact q)⟩,h4⟩
   ·obtain ⟨i,h1,h2⟩:=uE e;obtain ⟨v,h3,h4⟩:=hd.get h2;obtain ⟨c,hc⟩:=b6.mp (sm fn.scope.names (s.heap.objs.size+1) [] (.inl (al q)));rw [<-Ub] at hc;refine ⟨v,.inr ⟨.inl (by rw [hk];exact q),c,hc,?_⟩,h4⟩;have:=x.cell y c hc;rw [(Gt g5).2 i y v h1 h3 (by rw [hk];show fn.scope.names.lookup y≠_;rw [q];simp)] at this;exact this
  cells:=fun y e=>by
   rcases BJ e with q | q
   ·exact absurd q (tn g6 y)
   ·obtain ⟨c,hc⟩:=b6.mp (sm fn.scope.names (s.heap.objs.size+1) [] (.inl (al q)));rw [<-Ub] at hc;exact ⟨c,_,hc,x.cell y c hc⟩
  inj:=fun y z c h1 h2=>by have:=zY x.apart (al h1) (al h2) rfl;cases this;rfl
  Rr:=fun y c h1=>iX (x.above y c (al h1))
  apart:=fun b hb=>by
   rw [aS] at hb;have n:=hw.QL (fresh b hb);refine ⟨.inl n.1,n.2.1,n.2.2,?_⟩;rcases aq.mp hb with rfl | hb
   ·obtain ⟨o,_,_,e,_⟩:=x.toInCall.ns;exact ⟨o,e⟩
   ·obtain ⟨p,hp,rfl⟩:=aH.mp hb;have:(fc fd s.heap.objs.size a).cells.lookup p.1=some p.2:=by
     rw [Ub] at hp ⊢;exact vZ _ _ [] g7 (by simp) (by simp) _ _ hp
    obtain ⟨o,e,_⟩:=x.cell _ _ this;exact ⟨o,e⟩
  own:=fun y o e=>by cases e
  Rc:=fun y o e=>by cases e}
end
noncomputable def Apart (J:Cx) (W:Wd) (h:Heap) (a:Addr):Prop:=W.F a=none/\a∉J.T/\a∉W.QF.flatten/\∃ o,h.get? a=some o
structure QO (J:Cx) (I:Addr) (St:List D->Wd->Heap->Prop):Prop where
 self:∀ (A:bf) (W:Wd) (s:ah) ds (Q E:ag->ah->Prop),A.handled=none->St ds W s.heap->Q (.ref I) s->aD (aC P0 J.w) A (kz (.ref I)) Q E s
 next:∀ (A:bf) (W:Wd) (s:ah) d ds (Q:Option ag->ah->Prop) (E:ag->ah->Prop),A.handled=none->St (d::ds) W s.heap->(∀ b o,W.F b=some o->s.heap.get? b=some o)->W.F I=none->
  (∀ v h' tk,Rd J W.F W.as d v->St ds W h'->(∃ o,h'.get? I=some o)->(∀ b o,b≠I->s.heap.get? b=some o->h'.get? b=some o)->
   (∀ (A':bf) (target:Expr) (Q':Unit->ah->Prop) (E':ag->ah->Prop) (s':ah),s'.heap=h'->Q' () s'->aD (aC P0 J.w) A' (cH target (.ref I) v) Q' E' s')->Q (some v) {s with heap:=h',toks:=tk})->
  aD (aC P0 J.w) A (eF (.ref I)) Q E s
 done:∀ (A:bf) (W:Wd) (s:ah) (Q:Option ag->ah->Prop) (E:ag->ah->Prop),A.handled=none->St [] W s.heap->(∀ b o,W.F b=some o->s.heap.get? b=some o)->W.F I=none->
  (∀ h' tk,(∀ b o,b≠I->s.heap.get? b=some o->h'.get? b=some o)->Q none {s with heap:=h',toks:=tk})->aD (aC P0 J.w) A (eF (.ref I)) Q E s
 keep:∀ ds (W W':Wd) (h h':Heap),St ds W h->PM.le W.F W'.F->Pre W.as W'.as->(∀ o,h.get? I=some o->h'.get? I=some o)->St ds W' h'
 there:∀ ds W h,St ds W h->∃ o,h.get? I=some o
section
variable {J:Cx} {A:bf} {W:Wd} {s:ah} {X:List Addr} {sc:aX} {st:St} {env:Env} {ow:List Addr} {h:Heap}
theorem Apart.keep:∀ {W':Wd} {s':ah} {a:Addr} (ahb:Apart J W s.heap a) (t:Qk J X W s W' s'),Apart J W' s'.heap a:=by iterate 5
 obtain ⟨h1,h2,h3,o,h4⟩:=ahb;obtain ⟨o',h5⟩:=t.there a o h4;refine ⟨?_,h2,fun hm=>?_,o',h5⟩
 ·cases e:W'.F a with
  | none=>rfl
  | some o'=>
   rcases t.fresh a o' e with q | q
   ·rw [h1] at q;cases q
   ·rw [h4] at q;cases q
 ·rcases t.QF a hm with q | q
  ·exact h3 q
  ·rw [h4] at q;cases q
theorem Apart.at:∀ {W':Wd} {s':ah} {a:Addr} (ahb:Apart J W s.heap a) (t:Qk J X W s W' s') (hX:a∉X),∀ o,s.heap.get? a=some o->s'.heap.get? a=some o:=by iterate 6 exact (fun o e=>t.keep a o ahb.2.1 ahb.2.2.1 hX e)
theorem Qk.Rw:∀ {W0:Wd} {s0:ah} {I:Addr} {h':Heap} {tk:Nat} (t:Qk J X W0 s0 W s) (RT:Qn J W0 s0) (hI:s0.heap.get? I=none) (ap:W.F I=none/\I∉J.T/\I∉W.QF.flatten) (k:∀ b o,b≠I->s.heap.get? b=some o->h'.get? b=some o),Qk J X W0 s0 W {s with heap:=h',toks:=tk}:=by iterate 10
 exact {
  ok:={
   sub:=fun a o e=>k a o (fun q=>by rw [q,ap.1] at e;cases e) (t.ok.sub a o e)
   base:=t.ok.base
   Ry:=t.ok.Ry
   low:=fun a o e=>by obtain ⟨o1,e1⟩:=RT.low a o e;obtain ⟨o2,e2⟩:=t.there a o1 e1;exact ⟨o2,k a o2 (fun q=>by rw [q,hI] at e1;cases e1) e2⟩
   tab:=fun T hT=>(t.ok.tab T hT).keep (PM.le.refl _) fun o e=>k _ o (fun q=>ap.2.1 (q▸cM hT)) e
   Q9:=t.ok.Q9
   Rh:=t.ok.Rh
   obj:=fun i mo a fp h1 h2 h3=>(t.ok.obj i mo a fp h1 h2 h3).keep (PM.le.refl _) (Pre.refl _) fun b hb o e=>k b o (fun q=>ap.2.2 (q▸qK h3 hb)) e
   nodup:=t.ok.nodup
   RD:=fun a ha=>⟨(t.ok.RD a ha).1,(t.ok.RD a ha).2.1,(by obtain ⟨o,e⟩:=(t.ok.RD a ha).2.2;exact ⟨o,k a o (fun q=>ap.2.2 (q▸ha)) e⟩)⟩
   bare:=t.ok.bare
   os:=t.ok.os}
  le:=t.le
  fresh:=t.fresh
  keep:=fun a o h1 h2 h3 e=>k a o (fun q=>by rw [q,hI] at e;cases e) (t.keep a o h1 h2 h3 e)
  there:=fun a o e=>by obtain ⟨o2,e2⟩:=t.there a o e;exact ⟨o2,k a o2 (fun q=>by rw [q,hI] at e;cases e) e2⟩
  as:=t.as
  QF:=t.QF
  gens:=t.gens}
theorem Ql.Tr:∀ {h':Heap} {I:Addr} {tk:Nat} (ahb:Ql J W s.heap sc st env ow) (hI:I∉am env++ow) (k:∀ b o,b≠I->s.heap.get? b=some o->h'.get? b=some o),Ql J W h' sc st env ow:=by iterate 6 exact (ahb.U2 (s':={s with heap:=h',toks:=tk}) (fun a ha o e=>k a o (fun q=>hI (q▸ha)) e) (PM.le.refl _) (Pre.refl _) (fun _ _ e=> .inl e) fun _ e=> .inl e)
theorem py:∀ {I:Addr} {o:Obj} {n:String} {vs:Array ag} {target:Expr} {v:ag} {Q':Unit->ah->Prop} {E:ag->ah->Prop} (ho:s.heap.get? I=some o) (hc:o.cls= .type n) (hd:o.data= .fields vs) (hn:["enumerate","zip","dict_itemiterator","dict_reverseitemiterator","odict_iterator","itertools.zip_longest","itertools.pairwise"].contains n=false) (h:Q' () s),aD (aC P0 J.w) A (cH target (.ref I) v) Q' E s:=by iterate 13
 unfold cH;cases target<;>first
  | exact ay h
  | (cases v<;>first
    | exact ay h
    | (refine ae (wpAny_load ho ?_);rw [hc,hd];simp only [hn,j2,bX,if_false];exact ay h))
theorem Qo.drop_cons:∀ {F:PM} {as:List Addr} {d:D} {ds all:List D} {vs:List ag} {i:Nat} (r:Qo J F as all vs) (e:d::ds=all.drop i),∃ v,vs[i]? =some v/\Rd J F as d v/\ds=all.drop (i+1):=by iterate 9
 have h1:all[i]? =some d:=by have:=congrArg (·[0]?) e;simp at this;exact this.symm
 obtain ⟨v,h2,h3⟩:=r.get h1;refine ⟨v,h2,h3,?_⟩;have:=congrArg jA e;simpa using this
noncomputable def FG (J:Cx) (cls:String) (I l:Addr) (vs:List ag) (all:List D):List D->Wd->Heap->Prop:=fun ds W h=>
 ∃ i:Nat,ds=all.drop i/\(∃ o,h.get? I=some o/\o.cls= .type cls/\o.data= .fields #[.ref l,.int i 0])/\Qo J W.F W.as all vs
theorem A7:∀ {I l:Addr} {vs:List ag} {all:List D},QO J I fun ds W h=>FG J "list_iterator" I l vs all ds W h/\Q8 W.F l vs:=by iterate 4
 exact {
  self:=fun A W s ds Q E _ z0 hq=>by obtain ⟨⟨i,_,h2,_⟩,_⟩:=z0;exact wpAny_pyIter_listiter h2 hq
  next:=fun A W s d ds Q E hA z1 hs hI hq=>by obtain ⟨⟨i,h1,h2,h3⟩,h4⟩:=z1;obtain ⟨v,e1,e2,e3⟩:=h3.drop_cons h1;have hl:=Q8.isList h4 hs;refine lP h2 hl (x:=v) (by simpa using e1) fun h' hi sb=>?_;refine hq v h' s.toks e2 ⟨⟨i+1,e3,hi,h3⟩,h4⟩ (by obtain ⟨o,e,_⟩:=hi;exact ⟨o,e⟩) (fun b o hb e=>(sb.2 b hb).trans e) fun A' target Q' E' s' Tv q=>?_;obtain ⟨o,e,c,d⟩:=hi;exact py (by rw [Tv];exact e) c d rfl q
  done:=fun A W s Q E hA z2 hs hI hq=>by
   obtain ⟨⟨i,h1,h2,h3⟩,h4⟩:=z2;have hl:=Q8.isList h4 hs;refine l7 hA h2 hl ?_ fun h' sb=>hq h' s.toks fun b o hb e=>sb b o hb e;have:all.length<=i:=by have:=congrArg fj h1;simp at this;omega
   have l:=h3.length;simp;omega
  keep:=fun ds W W' h h' z3 k1 k2 k3=>by obtain ⟨⟨i,h1,⟨o,e,c,d⟩,h3⟩,h4⟩:=z3;exact ⟨⟨i,h1,⟨o,k3 _ e,c,d⟩,h3.mono k1 k2⟩,h4.mono k1⟩
  there:=fun ds W h z4=>by obtain ⟨⟨i,h1,⟨o,e,c,d⟩,h3⟩,h4⟩:=z4;exact ⟨o,e⟩}
theorem BC:∀ {I l:Addr} {vs:List ag} {all:List D},QO J I fun ds W h=>FG J "tuple_iterator" I l vs all ds W h/\Si W.F l vs:=by iterate 4
 exact {
  self:=fun A W s ds Q E _ z5 hq=>by obtain ⟨⟨i,_,h2,_⟩,_⟩:=z5;exact wpAny_pyIter_tupleiter h2 hq
  next:=fun A W s d ds Q E hA z6 hs hI hq=>by obtain ⟨⟨i,h1,h2,h3⟩,h4⟩:=z6;obtain ⟨v,e1,e2,e3⟩:=h3.drop_cons h1;have hl:=Si.Ul h4 hs;refine wpAny_pyNext_tuple_item h2 hl (x:=v) (by simpa using e1) fun h' hi sb=>?_;refine hq v h' s.toks e2 ⟨⟨i+1,e3,hi,h3⟩,h4⟩ (by obtain ⟨o,e,_⟩:=hi;exact ⟨o,e⟩) (fun b o hb e=>(sb.2 b hb).trans e) fun A' target Q' E' s' Tv q=>?_;obtain ⟨o,e,c,d⟩:=hi;exact py (by rw [Tv];exact e) c d rfl q
  done:=fun A W s Q E hA z7 hs hI hq=>by
   obtain ⟨⟨i,h1,h2,h3⟩,h4⟩:=z7;have hl:=Si.Ul h4 hs;refine wpAny_pyNext_tuple_end hA h2 hl ?_ fun h' sb=>hq h' s.toks fun b o hb e=>sb b o hb e;have:all.length<=i:=by have:=congrArg fj h1;simp at this;omega
   have l:=h3.length;simp;omega
  keep:=fun ds W W' h h' z8 k1 k2 k3=>by obtain ⟨⟨i,h1,⟨o,e,c,d⟩,h3⟩,h4⟩:=z8;exact ⟨⟨i,h1,⟨o,k3 _ e,c,d⟩,h3.mono k1 k2⟩,h4.mono k1⟩
  there:=fun ds W h z9=>by obtain ⟨⟨i,h1,⟨o,e,c,d⟩,h3⟩,h4⟩:=z9;exact ⟨o,e⟩}
theorem zl:∀ {I:Addr},QO J I fun ds _ h=>∃ (n:Nat) (a:Int),ds=vy n a/\IsRangeIter h I a n 1:=by iterate 1
 exact {
  self:=fun A W s ds Q E _ z10 hq=>by obtain ⟨n,a,_,h2⟩:=z10;exact wpAny_pyIter_rangeiter h2 hq
  next:=fun A W s d ds Q E hA z11 hs hI hq=>by
   obtain ⟨n,a,h1,h2⟩:=z11;cases n with
   | zero=>(dsimp only [vy] at h1;simp at h1)
   | succ n=>
    (dsimp only [vy] at h1;simp only [gy] at h1)
    obtain ⟨rfl,rfl⟩:=h1;refine wpAny_pyNext_range_item h2 (by omega) fun h' hi sb=>?_;have Vh:IsRangeIter h' I (a+1) (n:Int) 1:=by
     have:((n+1:Nat):Int)-1=n:=by omega
     rw [this] at hi;exact hi
    refine hq _ h' _ (by dsimp only [Rd];exact ⟨_,rfl⟩) ⟨n,a+1,rfl,Vh⟩ ⟨_,Vh⟩ (fun b o hb e=>(sb.2 b hb).trans e) fun A' target Q' E' s' Tv q=>?_;exact py (by rw [Tv];exact Vh) rfl rfl rfl q
  done:=fun A W s Q E hA z12 hs hI hq=>by
   obtain ⟨n,a,h1,h2⟩:=z12;have hn:n=0:=by cases n with | zero=>rfl | succ n=>(dsimp only [vy] at h1;simp at h1)
   subst hn;exact wpAny_pyNext_range_end hA h2 (by omega) fun h' sb=>hq h' s.toks fun b o hb e=>sb b o hb e
  keep:=fun ds W W' h h' z13 k1 k2 k3=>by obtain ⟨n,a,h1,h2⟩:=z13;exact ⟨n,a,h1,k3 _ h2⟩
  there:=fun ds W h z14=>by obtain ⟨n,a,h1,h2⟩:=z14;exact ⟨_,h2⟩}
theorem RX.get:∀ {ws:List (Int×ag)} {Qx:List (Int×Int)},RX ws Qx->∀ {i:Nat} {p:Int×Int},Qx[i]? =some p->∃ v,ws[i]? =some (p.1,v):=by iterate 0
 intro ws;induction ws with
 | nil=>intro _ h i p e;dsimp only [RX] at h;subst h;simp at e
 | cons Rv r Qj=>obtain ⟨k,v⟩:=Rv;intro _ h i p e;dsimp only [RX] at h;obtain ⟨j,t,r',rfl,rfl,h⟩:=h;cases i with | zero=>simp at e;subst e;exact ⟨_,rfl⟩ | succ i=>obtain ⟨v,h1⟩:=Qj h (i:=i) (by simpa using e);exact ⟨v,by simpa using h1⟩
noncomputable def L1 (J:Cx) (I d:Addr) (Qx:List (Int×Int)):List D->Wd->Heap->Prop:=fun ds W h=>
 ∃ (i:Nat) (o:Obj) (ws:List (Int×ag)) (ep:Nat),ds=(Qx.map fun p=>D.int p.1).drop i/\W.F d=some o/\(∀ h:Heap,h.get? d=some o->h.DictAt (IK J) d ws ep)/\RX ws Qx/\h.IsKeyIter I d i ws.length ep
theorem Ao:∀ {I d:Addr} {Qx:List (Int×Int)},QO J I (L1 J I d Qx):=by iterate 3
 exact {
  self:=fun A W s ds Q E _ z15 hq=>by obtain ⟨i,o,ws,ep,_,_,_,_,h⟩:=z15;exact wpAny_pyIter_keyiter h hq
  next:=fun A W s d' ds Q E hA z16 hs hI hq=>by
   obtain ⟨i,o,ws,ep,h1,h2,h3,h4,h5⟩:=z16;have e1:Qx[i]?.map (fun p=>D.int p.1)=some d':=by have:=congrArg (·[0]?) h1;simp at this;simpa using this.symm
   have e2:ds=(Qx.map fun p=>D.int p.1).drop (i+1):=by have:=congrArg jA h1;simpa using this
   obtain ⟨p,e3,rfl⟩:=ba.mp e1;obtain ⟨v,e4⟩:=h4.get e3;refine wpAny_pyNext_dict_item h5 (h3 _ (hs _ _ h2)) e4 fun key h' hk hi sb=>?_;have hk':∃ t,key= .int p.1 t:=Value.isInt_shape hk;refine hq key h' _ (by dsimp only [Rd];exact hk') ⟨i+1,o,ws,ep,e2,h2,h3,h4,hi⟩ (by obtain ⟨o,e,_⟩:=hi;exact ⟨o,e⟩) (fun b o hb e=>(sb.2 b hb).trans e) fun A' target Q' E' s' Tv q=>?_;obtain ⟨o,e,c,dd⟩:=hi;exact py (by rw [Tv];exact e) c dd rfl q
  done:=fun A W s Q E hA z17 hs hI hq=>by
   obtain ⟨i,o,ws,ep,h1,h2,h3,h4,h5⟩:=z17;refine wpAny_pyNext_dict_end hA h5 (h3 _ (hs _ _ h2)) ?_ fun h' sb=>hq h' s.toks fun b o hb e=>sb b o hb e;have:Qx.length<=i:=by have:=congrArg fj h1;simp at this;omega
   have l:=h4.length;simp;omega
  keep:=fun ds W W' h h' z18 k1 k2 k3=>by obtain ⟨i,o,ws,ep,h1,h2,h3,h4,⟨o',e,c,dd⟩⟩:=z18;exact ⟨i,o,ws,ep,h1,k1 _ _ h2,h3,h4,⟨o',k3 _ e,c,dd⟩⟩
  there:=fun ds W h z19=>by obtain ⟨i,o,ws,ep,h1,h2,h3,h4,⟨o',e,c,dd⟩⟩:=z19;exact ⟨o',e⟩}
theorem xF:∀ {I:Addr} {x:List Nat} {t:Tok} {cls:String} (abm:(["enumerate","zip","dict_itemiterator","dict_reverseitemiterator","odict_iterator","itertools.zip_longest","itertools.pairwise"].contains cls)=false) (Wk:∀ A':bf,A'.handled=none->Walks P0 J.w A' I [I] [I] x.length (SignAt ⟨x.toArray⟩) (fun i h=>h.IsStrIter I cls ⟨x.toArray⟩ t i)),QO J I fun ds _ h=>∃ i:Nat,i<=x.length/\ds=(x.map fun c=>D.str [c]).drop i/\h.IsStrIter I cls ⟨x.toArray⟩ t i:=by iterate 6
 exact {
  self:=fun A W s ds Q E hA z20 hq=>by obtain ⟨i,h0,h1,h2⟩:=z20;exact (Wk A hA).self i s Q E h2 hq
  next:=fun A W s d ds Q E hA z21 hs hI hq=>by
   obtain ⟨i,h0,h1,h2⟩:=z21;have e1:x[i]?.map (fun c=>D.str [c])=some d:=by have:=congrArg (·[0]?) h1;simp at this;simpa using this.symm
   have e2:ds=(x.map fun c=>D.str [c]).drop (i+1):=by have:=congrArg jA h1;simpa using this
   obtain ⟨c,e3,rfl⟩:=ba.mp e1;have RJ:=(aj.mp e3).1;refine (Wk A hA).item i s Q E RJ h2 fun v h' tk hv hi sb=>?_;obtain ⟨c',u,e4,rfl⟩:=hv;have e4':x[i]? =some c':=by simpa using e4
   have:c'=c:=by rw [e3] at e4';exact (bh e4').symm
   subst this;refine hq _ h' tk (by dsimp only [Rd];exact ⟨(by show 1<=lim;decide),u,rfl⟩) ⟨i+1,RJ,e2,hi⟩ (by obtain ⟨o,e,_⟩:=hi;exact ⟨o,e⟩) (fun b o hb e=>sb b o (by simpa using hb) e) fun A' target Q' E' s' Tv q=>?_;obtain ⟨o,e,c,dd⟩:=hi;exact py (by rw [Tv];exact e) c dd abm q
  done:=fun A W s Q E hA z22 hs hI hq=>by
   obtain ⟨i,h0,h1,h2⟩:=z22;have:i=x.length:=by have:=congrArg fj h1;simp at this;omega
   subst this;exact (Wk A hA).done s Q E h2 fun h' tk sb=>hq h' tk fun b o hb e=>sb b o (by simpa using hb) e
  keep:=fun ds W W' h h' z23 k1 k2 k3=>by obtain ⟨i,h0,h1,⟨o,e,r⟩⟩:=z23;exact ⟨i,h0,h1,⟨o,k3 _ e,r⟩⟩
  there:=fun ds W h z24=>by obtain ⟨i,h0,h1,⟨o,e,r⟩⟩:=z24;exact ⟨o,e⟩}
noncomputable def L4 (J:Cx) (W:Wd) (s:ah) (ds:List D) (it:ag) (s':ah):Prop:=
 ∃ I St,it= .ref I/\QO J I St/\St ds W s'.heap/\s.heap.get? I=none/\Qk J [] W s W s'
theorem wj:∀ {d:D} {ds:List D} {v:ag} {E:ag->ah->Prop} (e:itemsOf d=some ds) (r:Rd J W.F W.as d v) (hw:Qn J W s),aD (aC P0 J.w) A (kz v) (L4 J W s ds) E s:=by iterate 7
 have new:s.heap.get? s.heap.objs.size=none:=bn _;cases d with
 | lst xs=>replace e:some _=some ds:=e;cases e;obtain ⟨hl,a1,ws,n1,s1,rfl,e1,r1⟩:=io r;refine nr (items:=ws.toArray) ⟨_,hw.sub _ _ e1,rfl,n1,rfl⟩ ?_;exact ⟨_,_,rfl,A7 (l:=a1) (vs:=ws),⟨⟨0,by simp,⟨_,ax _ rfl,rfl,rfl⟩,r1⟩,⟨_,_,e1,rfl,rfl,rfl⟩⟩,new,Qk.push (tk:=s.toks) hw _⟩
 | tup xs=>replace e:some _=some ds:=e;cases e;obtain ⟨hl,a1,ws,n1,s1,rfl,e1,r1⟩:=qA r;refine wpAny_pyIter_tuple (items:=ws.toArray) ⟨_,hw.sub _ _ e1,rfl,n1,rfl⟩ ?_;exact ⟨_,_,rfl,BC (l:=a1) (vs:=ws),⟨⟨0,by simp,⟨_,ax _ rfl,rfl,rfl⟩,r1⟩,⟨_,_,e1,rfl,rfl,rfl⟩⟩,new,Qk.push (tk:=s.toks) hw _⟩
 | QC Qx=>replace e:some _=some ds:=e;cases e;dsimp only [Rd] at r;obtain ⟨hl,a,rfl,hn,o,ws,ep,e1,e2,e3⟩:=r;have Qz:=e2 _ (hw.sub _ _ e1);refine wpAny_pyIter_dict hn Qz ?_;exact ⟨_,_,rfl,Ao,⟨0,o,ws,ep,by simp,e1,e2,e3,⟨_,ax _ rfl,rfl,rfl⟩⟩,new,Qk.push (tk:=s.toks) hw _⟩
 | rng a b=>
  replace e:(if yH a b=true then _ else _)=some ds:=e;split at e
  ·rename_i hs;cases e;obtain ⟨h1,h2,h3⟩:=wB hs;dsimp only [Rd] at r;obtain ⟨q,t,u,w',rfl,hq⟩:=r;refine wpAny_pyIter_range (hw.sub _ _ hq) h1 ?_;rw [h3];exact ⟨_,_,rfl,zl,⟨_,_,rfl,ax _ rfl⟩,new,Qk.push (tk:=s.toks) hw _⟩
  ·cases e
 | str x=>
  replace e:some _=some ds:=e;cases e;dsimp only [Rd] at r;obtain ⟨hl,t,rfl⟩:=r;cases ha:(⟨x.toArray⟩:Str).cps.all (· <128)
  ·refine wpAny_pyIter_wide ha ?_;have sz:x.length=(⟨x.toArray⟩:Str).cps.size:=by simp
   exact ⟨_,_,rfl,xF (x:=x) (t:=t) (cls:="str_iterator") rfl (fun A' hA=>sz▸Walks.strWide hA _ ⟨x.toArray⟩ t),⟨0,jL _,by simp,⟨_,ax _ rfl,rfl,rfl⟩⟩,new,Qk.push (tk:=s.toks) hw _⟩
  ·refine wpAny_pyIter_ascii ha ?_;have sz:x.length=(⟨x.toArray⟩:Str).cps.size:=by simp
   exact ⟨_,_,rfl,xF (x:=x) (t:=t) (cls:="str_ascii_iterator") rfl (fun A' hA=>sz▸Walks.strAscii hA _ ⟨x.toArray⟩ t),⟨0,jL _,by simp,⟨_,ax _ rfl,rfl,rfl⟩⟩,new,Qk.push (tk:=s.toks) hw _⟩
 | _=>exact nomatch (show none=some ds from e)
theorem El:∀ {it l:Addr} {items:Array ag} {E:ag->ah->Prop} (Rl:l≠it),∀ (n i:Nat) (s:ah) (Q:List ag->ah->Prop),s.heap.IsListIter it l i->s.heap.IsList l items->i+n<=items.size->
  (∀ h',h'.IsListIter it l (i+n)->bW it s.heap h'->Q ((items.toList.drop i).take n) {s with heap:=h'})->aD (aC P0 J.w) A (draw (.ref it) n) Q E s:=by iterate 5
 intro n;induction n with
 | zero=>intro i s Q hit _ _ hQ;show aD _ _ (pure []) Q E s;exact ay (by simpa using hQ s.heap hit (oD ..))
 | succ n Qj=>
  intro i s Q hit ht hle hQ;have RJ:i<items.size:=by omega
  show aD _ _ (eF (.ref it) >>=_) Q E s;refine ae (lP hit ht (x:=items[i]) (by simp [RJ]) fun QZ TU Tu=>?_);refine ae (bu (Qj (i+1) _ _ TU (ht.extBut Tu.extBut Rl) (by omega) fun Rt Xa RU=>ay ?_));have hd:items.toList.drop i=items[i]::items.toList.drop (i+1):=by simp [fY,RJ]
  have:=hQ Rt (by rw [show i+(n+1)=i+1+n by omega];exact Xa) (Tu.trans RU);rw [hd,dh] at this;exact this
theorem sE:∀ {l:Addr} {items:Array ag} {E:ag->ah->Prop} {Q:List ag->ah->Prop} (hh:A.handled=none) (ht:s.heap.IsList l items) (hQ:∀ h',fw s.heap.objs.size s.heap h'->Q items.toList {s with heap:=h'}),aD (aC P0 J.w) A (ku (.ref l) items.size none) Q E s:=by iterate 7
 have RJ:l≠s.heap.objs.size:=by obtain ⟨o,ho,_⟩:=ht;exact fR (dK ho)
 unfold ku;refine ae ?_
 ·unfold notIterableAtAll;refine ae (f9 ht.typeIs PySem.F.slot_list_iter.lookup ?_);refine ay ?_;simp only [bX,if_false];refine ae (bu (nr ht ?_));refine ae (bu (El RJ items.size 0 _ _ ⟨_,ax _ rfl,rfl,rfl⟩ (ht.push _) (by omega) fun QZ TU Tu=>?_));have Qy:List.take items.size (List.drop 0 items.toList)=items.toList:=by
   rw [j0];exact gN (by simp)
  rw [Qy];rw [if_neg (by simp)];have Yf:QZ.IsList l items:=(ht.push _).extBut Tu.extBut RJ;refine ae (bu (l7 hh TU Yf (by simp) fun Rt Vk=>?_));simp only [iq,bX,if_false];refine ay (hQ Rt fun b o hb e=>Vk b o hb (Tu.extBut b o hb (aF _ e)))
theorem y9:∀ {ds:List D} {d:D} {v:ag} {n:Nat} {E:ag->ah->Prop} (hA:A.handled=none) (hd:d= .tup ds\/d= .lst ds) (r:Rd J W.F W.as d v) (hw:Qn J W s) (hn:n=ds.length),aD (aC P0 J.w) A (ku v n none) (fun vs s'=>Qo J W.F W.as ds vs/\Qk J [] W s W s') E s:=by iterate 10
 rcases hd with rfl | rfl
 ·obtain ⟨hl,a1,ws,n1,s1,rfl,e1,r1⟩:=qA r;have:n=ws.toArray.size:=by rw [hn,<-r1.length];simp
  subst this;exact wpAny_unpackItems_tuple hA ⟨_,hw.sub _ _ e1,rfl,n1,rfl⟩ fun h' e=>⟨by simpa using r1,hw.SJ (tk:=s.toks) e⟩
 ·obtain ⟨hl,a1,ws,n1,s1,rfl,e1,r1⟩:=io r;have:n=ws.toArray.size:=by rw [hn,<-r1.length];simp
  subst this;exact sE hA ⟨_,hw.sub _ _ e1,rfl,n1,rfl⟩ fun h' e=>⟨by simpa using r1,hw.SJ (tk:=s.toks) e⟩
end
noncomputable def qo:List Str->List D->Qm->Qm
| x::xs,d::ds,ρ=>qo xs ds ((x,d)::ρ)
| _,_,ρ=>ρ
theorem uJ:∀ {xs:List Str} {ds:List D} {ρ:Qm},cr xs=true->xs.length=ds.length->
  (∀ y,y∉xs->(qo xs ds ρ).lookup y=ρ.lookup y)/\∀ (i:Nat) y d,xs[i]? =some y->ds[i]? =some d->(qo xs ds ρ).lookup y=some d:=by iterate 0
 intro xs;induction xs with
 | nil=>intro ds ρ _ _;exact ⟨fun _ _=>rfl,fun i y d h=>by simp at h⟩
 | cons x xs Qj=>
  intro ds ρ hd hl;cases ds with
  | nil=>simp at hl
  | cons e ds=>
   dsimp only [cr] at hd;simp only [ai,bG,c7,decide_eq_false_iff_not] at hd;have ih:=Qj (ds:=ds) (ρ:=(x,e)::ρ) hd.2 (by simpa using hl);refine ⟨fun y hy=>?_,fun i y d h1 h2=>?_⟩
   ·simp only [aq,not_or] at hy;show (qo xs ds _).lookup y=_;rw [ih.1 y hy.2,qi hy.1]
   ·cases i with | zero=>simp at h1 h2;subst h1;subst h2;show (qo xs ds _).lookup x=_;rw [ih.1 x hd.1,qd] | succ i=>exact ih.2 i y d (by simpa using h1) (by simpa using h2)
theorem Q7:∀ {xs:List Str},cr xs=true↔xs.Nodup:=by iterate 0
 intro xs;induction xs with
 | nil=>(dsimp only [cr];simp)
 | cons x xs Qj=>
  (dsimp only [cr];simp only [ai,bG,c7,decide_eq_false_iff_not,cB])
  rw [Qj]
theorem AK:∀ {xs:List Str} {ds:List D} {ρ:Qm} (hd:cr xs=true) (hl:xs.length=ds.length) (y:Str),(qo xs.reverse ds.reverse ρ).lookup y=(qo xs ds ρ).lookup y:=by iterate 6
 have Vm:cr xs.reverse=true:=Q7.mpr (((List.reverse_perm xs).nodup_iff.mpr (Q7.mp hd)));have h1:=uJ (ρ:=ρ) hd hl;have h2:=uJ (ρ:=ρ) Vm (ds:=ds.reverse) (by simpa using hl);by_cases hy:y∈xs
 ·obtain ⟨i,hi,rfl⟩:=kX.mp hy;have Vh:i<ds.length:=by omega
  rw [h1.2 i xs[i] ds[i] (by simp) (by simp)];refine h2.2 (xs.length-1-i) xs[i] ds[i] ?_ ?_
  ·rw [bP (by omega)];have:xs.length-1-(xs.length-1-i)=i:=by omega
   rw [this];simp
  ·rw [bP (by omega)];have:ds.length-1-(xs.length-1-i)=i:=by omega
   rw [this];simp
 ·rw [h1.1 y hy,h2.1 y (by simpa using hy)]
theorem w9:∀ {ts:List Expr},∀ {ds:List D} {ρ Sa:Qm},zb ts ds ρ=some Sa->∃ xps:List (Str×Pos),ts=xps.map (fun p=>eA p.1 p.2)/\xps.length=ds.length/\Sa=qo (xps.map (·.1)) ds ρ:=by iterate 1 induction ts with | nil=>intro ds ρ Sa e;replace e:=bi e;obtain ⟨_,h1,e⟩:=e;cases oU h1;cases e;exact ⟨[],rfl,rfl,rfl⟩ | cons t ts ih=>intro ds ρ Sa e;replace e:=qI e;obtain ⟨x,h1,⟨d,Ra⟩,h2,e⟩:=e;obtain ⟨p,rfl⟩:=rW h1;cases qr h2;obtain ⟨xps,h1,h2,h3⟩:=ih e;exact ⟨(x,p)::xps,by rw [h1];rfl,congrArg (· +1) h2,h3⟩
section
variable {J:Cx} {A:bf} {W:Wd} {s:ah} {X:List Addr} {sc:aX} {st:St} {env:Env} {ow:List Addr} {h:Heap}
theorem Ql.congr:∀ {st':St} (ahb:Ql J W h sc st env ow) (hv:∀ x d,varD sc st' x=some d->varD sc st x=some d) (ho:st'.own=st.own),Ql J W h sc st' env ow:=by iterate 4
 exact {
  kind:=ahb.kind
  glob:=ahb.glob
  bi:=ahb.bi
  kd:=ahb.kd
  ns:=ahb.ns
  vars:=fun x d e=>ahb.vars x d (hv x d e)
  cells:=ahb.cells
  inj:=ahb.inj
  Rr:=ahb.Rr
  apart:=ahb.apart
  own:=fun x o e=>ahb.own x o (ho▸e)
  Rc:=fun x o e=>by
   have:=ahb.Rc x o (ho▸e);cases q:varD sc st' x with
   | none=>rfl
   | some d=>rw [hv x d q] at this;cases this}
theorem tE:∀ {Y:List Addr} {xs:List Str},∀ {fs:List (ag->Sem Unit)} {ds:List D} {vs:List ag} {st:St} {W:Wd} {s:ah},
  (∀ (i:Nat) f x,fs[i]? =some f->xs[i]? =some x->∀ v (Q:Unit->ah->Prop) (E:ag->ah->Prop) s,aD (aC P0 J.w) A (gV env x v) Q E s->aD (aC P0 J.w) A (f v) Q E s)->
  fs.length=xs.length->xs.length=ds.length->Qo J W.F W.as ds vs->(∀ x∈xs,pK sc x=true/\oO st x=true/\QX sc env Y x)->Ql J W s.heap sc st env ow->Qn J W s->
  aD (aC P0 J.w) A (assignInOrder fs vs) (fun _ s'=>Qk J Y W s W s'/\Ql J W s'.heap sc (st.withRho (qo xs ds st.ρ)) env ow) (fun _ _=>False) s:=by iterate 2
 induction xs with
 | nil=>intro fs ds vs st W s _ hl VQ r _ ahb hw;cases eS hl;exact assignInOrder_nil ⟨Qk.refl hw,ahb⟩
 | cons x xs ih=>
  intro fs ds vs st W s hf hl VQ r hx ahb hw;cases fs with
  | nil=>cases hl
  | cons f fs=>
   cases ds with
   | nil=>cases VQ
   | cons d ds=>obtain ⟨v,SP,rfl,h1,h2⟩:=r;refine assignInOrder_cons (hf 0 f x rfl rfl v _ _ _ ?_);have hxx:=hx x (by simp);refine af (vB (v:=v) ahb hw hxx.1 h1 hxx.2.1 hxx.2.2) (fun _ s1 z0=>?_) fun _ _ e=>e;obtain ⟨k1,H1⟩:=z0;exact af (ih (st:=st.withRho ((x,d)::st.ρ)) (fun i f x a b=>hf (i+1) f x a b) (cJ hl) (cJ VQ) h2 (fun y hy=>hx y (av _ hy)) H1 k1.ok) (fun _ s2 z1=>by obtain ⟨k2,H2⟩:=z1;exact ⟨k1.RL k2,H2⟩) fun _ _ e=>e
theorem su:∀ (xps:List (Str×Pos)),assignEach (xps.map fun p=>eA p.1 p.2) env=xps.map fun p=>(false,assign (.Name p.1 p.2) env):=by iterate 0 intro xps;induction xps with | nil=>exact rfl | cons p r Qj=>rw [aB,aB,<-Qj];rfl
theorem qR:∀ {xps:List (Str×Pos)} {k:Nat} {p:Pos},oR (.Tuple (xps.map fun p=>eA p.1 p.2) k p)=xps.map (·.1):=by iterate 3 show (xps.map fun p=>eA p.1 p.2).filterMap _=_;rw [dy];induction xps with | nil=>rfl | cons x r ih=>exact congrArg (x.1::·) ih
theorem Bq:∀ {d:D} {ds:List D} (h:Ks d=some ds),d= .tup ds\/d= .lst ds:=by iterate 3
 cases d<;>cases h
 ·exact .inl rfl
 ·exact .inr rfl
theorem qy:∀ {t:Expr} {d:D} {ρ Sa:Qm} (e:bv t d ρ=some Sa),(∃ x p,t= .Name x p/\Sa=(x,d)::ρ)\/∃ (xps:List (Str×Pos)) (ds:List D) (k:Nat) (p:Pos),t= .Tuple (xps.map fun p:Str×Pos=>eA p.1 p.2) k p/\(d= .tup ds\/d= .lst ds)/\xps.length=ds.length/\Sa=qo (xps.map (·.1)) ds ρ:=by iterate 5 cases t with | Name x p=>replace e:some _=some Sa:=e;cases e;exact .inl ⟨_,_,rfl,rfl⟩ | Tuple ts k p=>obtain ⟨ds,h1,e⟩:=bi e;obtain ⟨xps,rfl,h2,h3⟩:=w9 e;exact .inr ⟨xps,_,_,_,rfl,Bq h1,h2,h3⟩ | _=>exact nomatch (show none=some Sa from e)
theorem uc:∀ {t:Expr} {d:D} {v:ag} {Sa:Qm} {Y:List Addr} (hA:A.handled=none) (e:bv t d st.ρ=some Sa) (hx:∀ x∈oR t,pK sc x=true/\oO st x=true/\QX sc env Y x) (r:Rd J W.F W.as d v) (ahb:Ql J W s.heap sc st env ow) (hw:Qn J W s),aD (aC P0 J.w) A (assign t env v) (fun _ s'=>Qk J Y W s W s'/\Ql J W s'.heap sc (st.withRho Sa) env ow) (fun _ _=>False) s:=by iterate 11
 rcases qy e with ⟨x,p,rfl,rfl⟩ | ⟨xps,ds,k,p,rfl,hd,hl,rfl⟩
 ·have:=hx x (show x∈[x] from ej.mpr rfl);exact cQ (vB ahb hw this.1 r this.2.1 this.2.2)
 ·rw [nQ];refine ae (bt ?_);unfold unpack;rw [su];have Rz:(xps.map fun p=>(false,assign (.Name p.1 p.2) env)).findIdx? (·.1)=none:=by
   rw [jZ];intro x hx;obtain ⟨p,_,rfl⟩:=aH.mp hx;rfl
  rw [Rz];refine ae (bu (af (y9 hA hd r hw (by simpa using hl)) (fun vs s1 z2=>?_) fun _ _ e=>e));obtain ⟨r1,k1⟩:=z2;rw [qR] at hx;refine af (tE (xs:=xps.map (·.1)) (ds:=ds) (st:=st) (fun i f x a b v Q E s q=>?_) (by simp) (by simpa using hl) r1 hx (ahb.QB k1) k1.ok) (fun _ s2 z3=>by obtain ⟨k2,H2⟩:=z3;exact ⟨k1.Sr k2,H2⟩) fun _ _ e=>e;simp only [b7,b8,ba] at a b;obtain ⟨q1,e1,rfl⟩:=a;obtain ⟨q2,e2,rfl⟩:=b;rw [e1] at e2;cases e2;exact cQ q
theorem B8:∀ {Y:List Addr} {xps:List (Str×Pos)} {ds:List D} {d:D} {v:ag} (hA:A.handled=none) (hd:d= .tup ds\/d= .lst ds) (hl:xps.length=ds.length) (Ua:cr (xps.map (·.1))=true) (hx:∀ x∈xps.map (·.1),pK sc x=true/\oO st x=true/\QX sc env Y x) (r:Rd J W.F W.as d v) (ahb:Ql J W s.heap sc st env ow) (hw:Qn J W s),aD (aC P0 J.w) A (ku v (xps.map (·.1)).length none) (fun items Q4=>aD (aC P0 J.w) A (assignInOrder ((xps.map (·.1)).reverse.map fun n=>bindName env n) items.reverse)
   (fun _ s'=>Qk J Y W s W s'/\Ql J W s'.heap sc (st.withRho (qo (xps.map (·.1)) ds st.ρ)) env ow) (fun _ _=>False) Q4) (fun _ _=>False) s:=by iterate 13
 refine af (y9 hA hd r hw (by simpa using hl)) (fun vs s1 z4=>?_) fun _ _ e=>e;obtain ⟨r1,k1⟩:=z4;have r2:Qo J W.F W.as ds.reverse vs.reverse:=Qo.of_get (by simp [r1.length]) fun i d v h1 h2=>by
  have hi:i<ds.length:=by have:=(aj.mp h1).1;simpa using this
  have l:=r1.length;rw [bP hi] at h1;rw [bP (by omega),l] at h2;obtain ⟨v',h3,h4⟩:=r1.get h1;rw [h3] at h2;cases h2;exact h4
 refine af (tE (xs:=(xps.map (·.1)).reverse) (ds:=ds.reverse) (st:=st) (fun i f x a b v Q E s q=>?_) (by simp) (by simpa using hl) r2 (fun x hm=>hx x (dm.mp hm)) (ahb.QB k1) k1.ok)
  (fun _ s2 ⟨k2,H2⟩=>⟨k1.Sr k2,H2.congr (fun x d e=>?_) rfl⟩) fun _ _ e=>e
 ·rw [b8,ba] at a;obtain ⟨y,e1,rfl⟩:=a;rw [e1] at b;cases b;exact wpAny_bindName q
 ·unfold varD St.withRho at e ⊢;cases q:sc.names.lookup x with
  | none=>rw [q] at e;cases e
  | some k=>rw [q] at e;cases k<;>simp only at e ⊢ <;>first | exact e | (rw [AK Ua (by simpa using hl)];exact e) | cases e
end
noncomputable def uf (J:Cx) (W1:Wd) (s1:ah) (d:Lake.D) (g:G) (acc:ag) (C:Addr) (r:iy) (s':ah):Prop:=
 r= .ok .next/\∃ W',Qk J [] W1 s1 W' s'/\W'.H=g/\Rd J W'.F W'.as d acc/\Apart J W' s'.heap C/\s1.heap.get? C=none/\∃ m,s'.heap.Ns C m
noncomputable def zQ (J:Cx) (A:bf) (W:Wd) (s:ah) (e:Expr) (Qh:aX) (env:Env) (pos:Pos) (QA first:Sem ag) (d:D) (g:G):Prop:=
 ∀ (use:Option (ag->Sem Unit)) (Q:ag->ah->Prop),(∀ W1 s1,Qk J [] W s W1 s1->∀ acc C s',uf J W1 s1 d g acc C (.ok .next) s'->compPost (aC P0 J.w) A (fun _ _=>False) use Q acc C (.ok .next) s')->
  aD (aC P0 J.w) A (lJ e Qh env pos QA false first use) Q (fun _ _=>False) s
structure Ok (J:Cx) (n:Nat):Prop where
 comp:∀ {sc st e g d g' env ow A W s Qh pos QA first},ceE P0 n sc st e g=some (d,g')->W.H=g->Qn J W s->Ql J W s.heap sc st env ow->Qs n A->vY env e=some (Qh,pos,QA,first)->zQ J A W s e Qh env pos QA first d g'
 e:∀ {sc st e g d g' env ow A W s},ceE P0 n sc st e g=some (d,g')->W.H=g->Qn J W s->Ql J W s.heap sc st env ow->Qs n A->Ex J A (eval e env) [] W s (li J d g')
 t:∀ {sc st e g b g' env ow A W s},ceT P0 n sc st e g=some (b,g')->W.H=g->Qn J W s->Ql J W s.heap sc st env ow->Qs n A->Ex J A (jT e env (eval e env)) [] W s (fun c W' _=>c=b/\W'.H=g')
 UJ:∀ {sc st es g b g' env ow A W s},ceOr P0 n sc st es g=some (b,g')->W.H=g->Qn J W s->Ql J W s.heap sc st env ow->Qs n A->Ex J A (allTrue .Or es env) [] W s (fun c W' _=>c=b/\W'.H=g')
 Ti:∀ {sc st es g b g' env ow A W s},ceAndT P0 n sc st es g=some (b,g')->W.H=g->Qn J W s->Ql J W s.heap sc st env ow->Qs n A->Ex J A (allTrue .And es env) [] W s (fun c W' _=>c=b/\W'.H=g')
 RQ:∀ {sc st es g d g' pos env ow A W s},ceAnd P0 n sc st es g=some (d,g')->W.H=g->Qn J W s->Ql J W s.heap sc st env ow->Qs n A->Ex J A (boolOp pos .And (evalEach es env)) [] W s (li J d g')
 es:∀ {sc st es g ds g' pos env ow A W s},ceEs P0 n sc st es g=some (ds,g')->W.H=g->Qn J W s->Ql J W s.heap sc st env ow->Qs n A->
  (kC pos (eL es env)).any (·.1)=false/\es.length=ds.length/\Ex J A (eM (kC pos (eL es env))) [] W s (fun vs W' _=>W'.H=g'/\Qo J W'.F W'.as ds vs)
 ifs:∀ {sc st es g b g' env ow A W s},ceIfs P0 n sc st es g=some (b,g')->W.H=g->Qn J W s->Ql J W s.heap sc st env ow->Qs n A->
  Ex J A (forIn es true fun c r=>if r=true then do let ok <-jT c env (eval c env);pure (b9 ok) else pure (b9 r)) [] W s (fun c W' _=>c=b/\W'.H=g')
 opt:∀ {sc st o g i g' env ow A W s},ceOpt P0 n sc st o g=some (i,g')->W.H=g->Qn J W s->Ql J W s.heap sc st env ow->Qs n A->Ex J A (evalPart o env) [] W s (fun v W' _=>W'.H=g'/\RK i v)
section
variable {J:Cx} {A:bf} {E:ag->ah->Prop} {R:iy->ah->Prop} {s:ah}
theorem EJ:∀ {elt target iter:Expr} {ifs:List Expr} {scope:aX} {pos:Pos} {it acc:ag} {env:Env} (I:Nat->ah->Prop) (turn:∀ n s,I n s->aD (aC P0 J.w) A (eF it) (fun r Qg=>match r with
   | none=>R (.ok .next) Qg
   | some v=>aD (aC P0 J.w) A (cH target it v) (fun _ Qp=>aD (aC P0 J.w) A (assign target env v) (fun _ Q4=>
     aD (aC P0 J.w) A (forIn ifs true fun c r=>if r=true then do let ok <-jT c env (eval c env);pure (b9 ok) else pure (b9 r)) (fun ok QK=>if ok=true then aD (aC P0 J.w) A (eval elt env) (fun x RN=>
      aD (aC P0 J.w) A (call (.builtin "list.append") [acc,x]) (fun _ Sy=>∃ m,m<n/\I m Sy) (fun _ _=>False) RN) (fun _ _=>False) QK
      else ∃ m,m<n/\I m QK) (fun _ _=>False) Q4)
     (fun _ _=>False) Qp) (fun _ _=>False) Qg) (fun _ _=>False) s) (n:Nat) (h:I n s),bQ (aC P0 J.w) A (.compLoop (.ListComp elt [⟨target,iter,ifs,0⟩] scope pos) 0 it acc env) R s:=by iterate 13
 refine jU rfl I (fun n s hI=>?_) n h;show aD _ A ((kf (.ListComp elt [⟨target,iter,ifs,0⟩] scope pos) 0 it acc env).onRaise (fun x=>do gW x env;dY x)) _ _ s;refine kq ?_;rw [compTurn_list];refine ae (bt (ae (af (turn n s hI) (fun r Qg QZ=>?_) fun _ _ h'=>h'.elim)));cases r with
 | none=>exact ay QZ
 | some v=>refine ae (af QZ (fun _ Qp SG=>?_) fun _ _ h'=>h'.elim);refine ae (af SG (fun _ Q4 Rt=>?_) fun _ _ h'=>h'.elim);refine ae (af Rt (fun okb QK RS=>?_) fun _ _ h'=>h'.elim);cases okb with | false=>exact ay ⟨rfl,RS⟩ | true=>exact ae (ae (af RS (fun x RN SY=>ae (af SY (fun _ Sy SX=>ay (ay ⟨rfl,SX⟩)) fun _ _ h'=>h'.elim)) fun _ _ h'=>h'.elim))
theorem D8:∀ {kx vx target iter:Expr} {ifs:List Expr} {scope:aX} {pos:Pos} {it:ag} {D:Addr} {env:Env} (I:Nat->ah->Prop) (turn:∀ n s,I n s->aD (aC P0 J.w) A (eF it) (fun r Qg=>match r with
   | none=>R (.ok .next) Qg
   | some v=>aD (aC P0 J.w) A (cH target it v) (fun _ Qp=>aD (aC P0 J.w) A (assign target env v) (fun _ Q4=>
     aD (aC P0 J.w) A (forIn ifs true fun c r=>if r=true then do let ok <-jT c env (eval c env);pure (b9 ok) else pure (b9 r)) (fun ok QK=>
      if ok=true then aD (aC P0 J.w) A (eval kx env) (fun kv RN=>aD (aC P0 J.w) A (eval vx env) (fun vv Sy=>aD (aC P0 J.w) A (dictSet D kv vv) (fun _ X1=>∃ m,m<n/\I m X1) (fun _ _=>False) Sy) (fun _ _=>False) RN) (fun _ _=>False) QK
      else ∃ m,m<n/\I m QK) (fun _ _=>False) Q4) (fun _ _=>False) Qp) (fun _ _=>False) Qg) (fun _ _=>False) s) (n:Nat) (h:I n s),bQ (aC P0 J.w) A (.compLoop (.DictComp kx vx [⟨target,iter,ifs,0⟩] scope pos) 0 it (.ref D) env) R s:=by iterate 14
 refine jU rfl I (fun n s hI=>?_) n h;show aD _ A ((kf (.DictComp kx vx [⟨target,iter,ifs,0⟩] scope pos) 0 it (.ref D) env).onRaise (fun x=>do gW x env;dY x)) _ _ s;refine kq ?_;rw [compTurn_dict];refine ae (bt (ae (af (turn n s hI) (fun r Qg QZ=>?_) fun _ _ h'=>h'.elim)));cases r with
 | none=>exact ay QZ
 | some v=>refine ae (af QZ (fun _ Qp SG=>?_) fun _ _ h'=>h'.elim);refine ae (af SG (fun _ Q4 Rt=>ae (af Rt (fun ok QK RS=>?_) fun _ _ h'=>h'.elim)) fun _ _ h'=>h'.elim);cases ok with | false=>exact ay ⟨rfl,RS⟩ | true=>exact ae (ae (af RS (fun kv RN SY=>ae (bu (af SY (fun vv Sy SX=>ae (bt (bu (af SX (fun _ X1 aaz=>ay ⟨rfl,aaz⟩) fun _ _ h'=>h'.elim)))) fun _ _ h'=>h'.elim))) fun _ _ h'=>h'.elim))
end
noncomputable def pY (env:Env):List (Str×eN)->List (Str×Addr)->List (Str×Addr)
| [],acc=>acc
| (n,k)::r,acc=>if k== .free then pY env r ((n,(env.cells.lookup n).getD 0)::acc) else pY env r acc
theorem uz:∀ {env:Env},∀ (names:List (Str×eN)) (acc:List (Str×Addr)) (p:Str×Addr),p∈pY env names acc->p∈acc\/((p.1,cb)∈names/\p.2=(env.cells.lookup p.1).getD 0):=by iterate 1
 intro names;induction names with
 | nil=>intro acc p h;exact .inl h
 | cons Rv r Qj=>
  obtain ⟨n,k⟩:=Rv;intro acc p h;dsimp only [pY] at h;split at h
  ·rename_i hk;have hk:k= .free:=by simpa using hk
   rcases Qj _ p h with h | h
   ·rcases aq.mp h with h | h
    ·subst h;subst hk;exact .inr ⟨by simp,rfl⟩
    ·exact .inl h
   ·exact .inr ⟨av _ h.1,h.2⟩
  ·rcases Qj _ p h with h | h
   ·exact .inl h
   ·exact .inr ⟨av _ h.1,h.2⟩
theorem BX:∀ {env:Env} {x:Str},∀ (names:List (Str×eN)) (acc:List (Str×Addr)),((x,cb)∈names\/(acc.lookup x).isSome=true)->((pY env names acc).lookup x).isSome=true:=by iterate 2
 intro names;induction names with
 | nil=>
  intro acc h;rcases h with h | h
  ·simp at h
  ·exact h
 | cons Rv r Qj=>
  obtain ⟨n,k⟩:=Rv;intro acc h;dsimp only [pY];split
  ·rename_i hk;refine Qj _ ?_;rcases h with h | h
   ·rcases aq.mp h with h | h
    ·cases h;right;simp [aY]
    ·exact .inl h
   ·right;rw [aY];cases x==n<;>simp [h]
  ·rename_i hk;refine Qj _ ?_;rcases h with h | h
   ·rcases aq.mp h with h | h
    ·cases h;exact absurd rfl hk
    ·exact .inl h
   ·exact .inr h
theorem BY:∀ {env:Env},∀ (names:List (Str×eN)) (acc:List (Str×Addr)),(∀ x,(x,cb)∈names->∃ c,env.cells.lookup x=some c)->
  (forIn names acc fun x (cs:List (Str×Addr))=>if (x.2==cb)=true then do let c <-cellOf env x.1;pure (b9 ((x.1,c)::cs)) else pure (b9 cs))=(pure (pY env names acc):Sem (List (Str×Addr))):=by iterate 1
 intro names;induction names with
 | nil=>intro acc _;(dsimp only [pY];simp only [jY])
 | cons Rv r Qj=>
  obtain ⟨n,k⟩:=Rv;intro acc h;rw [mG];dsimp only [pY];cases hk:k==cb with
  | true=>
   have hk':k= .free:=by simpa using hk
   obtain ⟨c,hc⟩:=h n (by rw [hk'];simp);have YM:cellOf env n=pure c:=by unfold cellOf;rw [hc]
   simp only [hk,if_true,YM,hc,gw];show (pure (b9 ((n,c)::acc)):Sem _) >>=_=_;exact (Qj ((n,c)::acc) fun x hx=>h x (av _ hx))
  | false=>simp only [hk,bX,if_false];exact (Qj acc fun x hx=>h x (av _ hx))
theorem sL:∀ {scope:aX} {env:Env} (h:∀ x,(x,cb)∈scope.names->∃ c,env.cells.lookup x=some c),eX scope env=pure (pY env scope.names []):=by iterate 3 have:=BY (env:=env) scope.names [] h;simp only [eX];refine kR ?_ this;show (forIn scope.names [] _ >>=fun r=>pure r)=_;have e:∀ (m:Sem (List (Str×Addr))),(m >>=fun r=>pure r)=m:=fun m=>bind_pure m;rw [e]
theorem xK:∀ {Qh:aX} {env:Env} (x:Str),(relabel Qh env).names.lookup x=(Qh.names.lookup x).map fun k=>if (k== .free&&env.scope.kind== .function&&env.kindOf x==some .cell)=true then .cell else k:=by iterate 3
 show (Qh.names.map _).lookup x=_;induction Qh.names with
 | nil=>rfl
 | cons p r ih=>
  obtain ⟨n,k⟩:=p;have key:∀ b:Bool,cG x ((if b=true then (n,fV) else (n,k))::(r.map fun (n,k)=>if (k== .free&&env.scope.kind== .function&&env.kindOf n==some .cell) then (n,.cell) else (n,k)))=
    match x==n with
    | true=>some (if b=true then .cell else k)
    | false=>cG x (r.map fun (n,k)=>if (k== .free&&env.scope.kind== .function&&env.kindOf n==some .cell) then (n,.cell) else (n,k)):=fun b=>by
   cases b
   ·show cG x ((n,k)::_)=_;rw [aY];cases x==n<;>rfl
   ·show cG x ((n,fV)::_)=_;rw [aY];cases x==n<;>rfl
  refine (key _).trans ?_;rw [aY];by_cases hx:x=n
  ·subst hx;simp only [beq_self_eq_true];rfl
  ·have:(x==n)=false:=by simpa using hx
   rw [this];exact ih
section
variable {J:Cx} {A:bf} {W:Wd} {s:ah} {sc Qh:aX} {st:St} {env:Env} {ow:List Addr}
structure To (sc Qh:aX):Prop where
 kind:Qh.kind= .function
 names:∀ x k,(x,k)∈Qh.names->Qh.names.lookup x=some k
 cell:∀ x,(x,fV)∉Qh.names
 free:∀ x,(x,cb)∈Qh.names->sc.names.lookup x=some .cell\/sc.names.lookup x=some .free
theorem Fr:∀ (h:yg sc Qh=true),To sc Qh:=by iterate 1
 unfold yg at h;rw [ai] at h;obtain ⟨h1,h2⟩:=h;have h2:=ak.mp h2;refine ⟨by simpa using h1,fun x k hm=>?_,fun x hm=>?_,fun x hm=>?_⟩
 ·have:=h2 _ hm;simp at this;exact this.1.1
 ·have:=h2 _ hm;simp at this
 ·have:=h2 _ hm;simp at this;exact this.2
theorem To.cf:∀ {x:Str} (hs:To sc Qh) (h:(x,cb)∈Qh.names),yz sc x=true:=by iterate 3 unfold yz;rcases hs.free x h with q | q<;>rw [q]
noncomputable def rH (Qh:aX) (env:Env) (C:Addr):Env:=
 {scope:=relabel Qh env,locals:=C,globals:=env.globals,cells:=pY env Qh.names [],qual:=env.qual,func:=none,code:=env.code,frame:=env.frame,builtins:=env.builtins}
theorem zP:∀ (hs:To sc Qh) (ahb:Ql J W s.heap sc st env ow),eX Qh env=pure (pY env Qh.names []):=by iterate 2 exact (sL fun x hx=>by obtain ⟨c,_,h,_⟩:=ahb.cells x (hs.cf hx);exact ⟨c,h⟩)
theorem sB:∀ {x:Str} {c:Addr} (hs:To sc Qh) (ahb:Ql J W s.heap sc st env ow) (h:(pY env Qh.names []).lookup x=some c),(x,cb)∈Qh.names/\env.cells.lookup x=some c:=by iterate 5
 rcases uz Qh.names [] _ (al h) with q | q
 ·simp at q
 ·obtain ⟨c',_,e,_⟩:=ahb.cells x (hs.cf q.1);refine ⟨q.1,?_⟩;have:=q.2;simp only [e,gw] at this;rw [e,this]
theorem za:∀ {x:Str} (hs:To sc Qh) (ahb:Ql J W s.heap sc st env ow) (h:(x,cb)∈Qh.names),∃ c,(pY env Qh.names []).lookup x=some c/\env.cells.lookup x=some c:=by iterate 4 obtain ⟨c,hc⟩:=b6.mp (BX (env:=env) Qh.names [] (.inl h));exact ⟨c,hc,(sB hs ahb hc).2⟩
theorem Jd:∀ {x:Str} {d:D} (e:(st.comp sc Qh).up.lookup x=some d),varD sc st x=some d:=by iterate 3
 have h:=al e;unfold St.comp at h;obtain ⟨p,_,h2⟩:=ey.mp h;split at h2
 ·obtain ⟨d',h3,h4⟩:=ba.mp h2;cases h4;exact h3
 ·cases h2
theorem HK:∀ {C:Addr} (hs:To sc Qh) (ahb:Ql J W s.heap sc st env ow) (hC:Apart J W s.heap C) (Y3:C∉am env) (hn:∃ m,s.heap.Ns C m),Ql J W s.heap Qh (st.comp sc Qh) (rH Qh env C) []:=by iterate 6
 have Uk:∀ x,(x,cb)∈Qh.names->env.kindOf x=some .cell\/env.kindOf x=some .free:=fun x hx=>by
  rcases hs.free x hx with q | q
  ·rcases ahb.kd x _ q with h | ⟨h,_⟩
   ·exact .inl h
   ·cases h
  ·rcases ahb.kd x _ q with h | ⟨_,h⟩
   ·exact .inr h
   ·exact .inl h
 have kd:∀ x,(rH Qh env C).kindOf x=(Qh.names.lookup x).map fun k=>if (k== .free&&env.scope.kind== .function&&env.kindOf x==some .cell)=true then .cell else k:=fun x=>xK x
 have Uj:∀ x,Qh.names.lookup x=some .free->(rH Qh env C).kindOf x=env.kindOf x:=fun x hx=>by rw [kd,hx,cY,ahb.kind];rcases Uk x (al hx) with q | q<;>rw [q]<;>rfl
 have WD:∀ {x c},env.cells.lookup x=some c->c∈am env:=fun h=>av _ (aH.mpr ⟨_,al h,rfl⟩);exact {
  kind:=hs.kind
  glob:=ahb.glob
  bi:=ahb.bi
  kd:=fun x k e=>by
   by_cases hk:k= .free
   ·subst hk;rcases Uk x (al e) with q | q
    ·exact .inr ⟨rfl,(Uj x e).trans q⟩
    ·exact .inl ((Uj x e).trans q)
   ·left;rw [kd,e,cY];have:(k==cb)=false:=by simpa using hk
    simp [this]
  ns:=hn
  vars:=fun x d e=>by
   rcases zu e with ⟨q,e⟩ | ⟨_,e⟩ | ⟨_,e⟩
   ·have hx:=al q;obtain ⟨v,h1,h2⟩:=ahb.vars x d (Jd e);refine ⟨v,.inr ⟨(by rw [Uj x q];exact Uk x hx),?_⟩,h2⟩;rcases h1 with ⟨h1,_⟩ | ⟨_,c,h3,h4⟩
    ·rcases Uk x hx with z | z<;>(rw [z] at h1;cases h1)
    ·obtain ⟨c',e1,e2⟩:=za hs ahb hx;rw [h3] at e2;cases e2;exact ⟨c,e1,h4⟩
   ·simp [St.comp] at e
   ·simp [St.comp] at e
  cells:=fun x e=>by
   rcases BJ e with q | q
   ·have hx:=al q;obtain ⟨c',e1,e2⟩:=za hs ahb hx;obtain ⟨c,v,e3,e4⟩:=ahb.cells x (hs.cf hx);rw [e3] at e2;cases e2;exact ⟨_,v,e1,e4⟩
   ·exact absurd (al q) (hs.cell x)
  inj:=fun x y c h1 h2=>ahb.inj x y c (sB hs ahb h1).2 (sB hs ahb h2).2
  Rr:=fun x c h1 q=>Y3 (by have z:=WD (sB hs ahb h1).2;rw [q] at z;exact z)
  apart:=fun a ha=>by
   rw [aS] at ha;rcases aq.mp ha with rfl | ha
   ·exact ⟨.inl hC.1,hC.2⟩
   ·obtain ⟨p,hp,rfl⟩:=aH.mp ha;rcases uz Qh.names [] p hp with q | q
    ·simp at q
    ·obtain ⟨c,_,e,_⟩:=ahb.cells p.1 (hs.cf q.1);have ZC:p.2=c:=by rw [q.2,e];rfl
     rw [ZC];have z:=ahb.apart c (aE _ (WD e));refine ⟨z.1.imp id fun z1=>⟨av _ (ZC▸ha),fun w=>Y3 (by have:=WD e;rw [w] at this;exact this),fun y hy=>?_⟩,z.2⟩;have y1:=sB hs ahb hy;rw [Uj y (hs.names _ _ y1.1)];exact z1.2.2 y y1.2
  own:=fun x o e=>by cases e
  Rc:=fun x o e=>by cases e}
theorem Ct:∀ {C:Addr} (hs:To sc Qh) (ahb:Ql J W s.heap sc st env ow),∀ a∈am (rH Qh env C),a=C\/a∈am env:=by iterate 3
 exact (fun a ha=>by
 rcases aq.mp ha with rfl | ha
 ·exact .inl rfl
 ·obtain ⟨p,hp,rfl⟩:=aH.mp ha;rcases uz Qh.names [] p hp with q | q
  ·simp at q
  ·obtain ⟨c,_,e,_⟩:=ahb.cells p.1 (hs.cf q.1);have:p.2=c:=by rw [q.2,e];rfl
   rw [this];exact .inr (av _ (aH.mpr ⟨_,al e,rfl⟩)))
end
theorem Db:∀ {k i:Int} {t:Tok},∀ {ws:List (Int×ag)} {Qx:List (Int×Int)},RX ws Qx->(ws.map (·.1)).Nodup->RX (mf ws k (.int i t)) (put k i Qx):=by iterate 3
 intro ws;induction ws with
 | nil=>intro _ h _;dsimp only [RX] at h;subst h;(dsimp only [put,RX];simp only [mf,List.any_nil,bX,if_false,a9]);exact ⟨_,_,_,rfl,rfl,rfl⟩
 | cons Rv r Qj=>
  obtain ⟨j,v⟩:=Rv;intro _ h hn;dsimp only [RX] at h;obtain ⟨a,u,r',rfl,rfl,h⟩:=h;simp only [aB,cB] at hn;by_cases e:j=k
  ·subst e;have Tz:∀ kv∈r,¬ kv.1=j:=fun kv hm q=>hn.1 (aH.mpr ⟨kv,hm,q⟩);have h1:mf ((j,dZ a u)::r) j (.int i t)=(j,.int i t)::r:=by
    simp only [mf,nj,decide_true,Bool.true_or,if_true,aB];congr 1;exact map_eq_self fun kv hm=>if_neg (Tz kv hm)
   rw [h1];(dsimp only [put,RX];simp only [if_true]);exact ⟨_,_,_,rfl,rfl,h⟩
  ·have ih:=Qj h hn.2;have h1:mf ((j,dZ a u)::r) k (.int i t)=(j,.int a u)::mf r k (.int i t):=by
    unfold mf;simp only [nj,e,decide_false,Bool.false_or,aB,if_false];split<;>rfl
   rw [h1];(dsimp only [put,RX];simp only [e,if_false]);exact ⟨_,_,_,rfl,rfl,ih⟩
noncomputable def Nq:OW->D
| .lst xs=> .lst xs
| .QC Qx=> .QC Qx
section
variable {J:Cx} {A:bf} {W W0:Wd} {s s0:ah} {X:List Addr} {sc Qh:aX} {st:St} {env:Env} {ow:List Addr}
theorem wk:∀ {o:OW} {a:Addr} (tr:Qk J X W0 s0 W s) (hn:s0.heap.get? a=none) (ap:Apart J W s.heap a) (h:QN J W s.heap o a),∃ ob,s.heap.get? a=some ob/\Qk J X W0 s0 (W.Q3 a ob) s/\Rd J (W.Q3 a ob).F (W.Q3 a ob).as (Nq o) (.ref a):=by iterate 6
 cases o with
 | lst xs=>
  obtain ⟨hl,vs,⟨ob,n,e,c,d,dt⟩,r⟩:=h;have k:=Qk.Q3 tr e hn ap.2.1 ap.2.2.1;refine ⟨ob,e,k,?_⟩;dsimp only [Nq,Rd];have le:PM.le W.F (W.Q3 a ob).F:=fun b o' e'=>by
   show (if b=a then some ob else W.F b)=some o';by_cases hb:b=a
   ·subst hb;rw [ap.1] at e';cases e'
   ·rw [if_neg hb];exact e'
  exact ⟨hl,a,vs.toList,rfl,⟨ob,n,oN _ _ _,c,d,by simpa using dt⟩,r.mono le (Pre.refl _)⟩
 | QC Qx=>obtain ⟨hl,hs,ws,⟨ob,es,ep,e,r⟩,q⟩:=h;have k:=Qk.Q3 tr e hn ap.2.1 ap.2.2.1;refine ⟨ob,e,k,?_⟩;dsimp only [Nq,Rd];exact ⟨hl,a,rfl,hs,ob,ws,ep,oN _ _ _,fun h he=>⟨ob,es,he,r⟩,q⟩
theorem Apart.Q3:∀ {a b:Addr} {ob:Obj} (h:Apart J W s.heap a) (ne:a≠b),Apart J (W.Q3 b ob) s.heap a:=by iterate 5 exact (⟨by show (if a=b then some ob else W.F a)=none;rw [if_neg ne];exact h.1,h.2.1,h.2.2.1,h.2.2.2⟩)
structure CL (J:Cx) (W1:Wd) (s1:ah) (Qh:aX) (cst:St) (Qq:Env) (Is:List Addr) (D:Addr) (St:Wd->Heap->Prop) (o:OW) (W:Wd) (s:ah):Prop where
 tr:Qk J [] W1 s1 W s
 er:Ql J W s.heap Qh cst Qq []
 it:St W s.heap
 QT:∀ I∈Is,Apart J W s.heap I
 RE:Apart J W s.heap D
 acc:QN J W s.heap o D
structure CK (J:Cx) (W1:Wd) (s1:ah) (Qq:Env) (Is:List Addr) (D:Addr):Prop where
 RO:Qn J W1 s1
 nI:∀ I∈Is,s1.heap.get? I=none
 nD:s1.heap.get? D=none
 nC:s1.heap.get? Qq.locals=none
 ID:∀ I∈Is,I≠D
 IC:∀ I∈Is,I∉am Qq
 DC:D∉am Qq
variable {W1:Wd} {s1:ah} {cst:St} {Qq:Env} {Is:List Addr} {I D:Addr} {St:Wd->Heap->Prop} {o:OW}
theorem CL.step:∀ {W':Wd} {s':ah} (c:CL J W1 s1 Qh cst Qq Is D St o W s) (t:Qk J [] W s W' s') (hSt:St W s.heap->PM.le W.F W'.F->Pre W.as W'.as->(∀ I∈Is,∀ o,s.heap.get? I=some o->s'.heap.get? I=some o)->St W' s'.heap),CL J W1 s1 Qh cst Qq Is D St o W' s':=by iterate 5
 exact {
  tr:=c.tr.Qi t
  er:=c.er.QB t
  it:=hSt c.it t.le t.as (fun I hI=>(c.QT I hI).at t (by simp))
  QT:=fun I hI=>(c.QT I hI).keep t
  RE:=c.RE.keep t
  acc:=c.acc.keep t.le t.as (c.RE.at t (by simp))}
noncomputable abbrev uG (Is:List Addr) (St:Wd->Heap->Prop):Prop:=∀ (W W':Wd) (h h':Heap),St W h->PM.le W.F W'.F->Pre W.as W'.as->(∀ I∈Is,∀ o,h.get? I=some o->h'.get? I=some o)->St W' h'
theorem CL.next:∀ {St':Wd->Heap->Prop} {h':Heap} {tk:Nat} (K:CK J W1 s1 Qq Is D) (c:CL J W1 s1 Qh cst Qq Is D St o W s) (hm:I∈Is) (k:∀ b o,b≠I->s.heap.get? b=some o->h'.get? b=some o) (hI:∃ o,h'.get? I=some o) (hSt:St' W h'),CL J W1 s1 Qh cst Qq Is D St' o W {s with heap:=h',toks:=tk}:=by iterate 9
 exact {
  tr:=c.tr.Rw K.RO (K.nI I hm) ⟨(c.QT I hm).1,(c.QT I hm).2.1,(c.QT I hm).2.2.1⟩ k
  er:=c.er.Tr (tk:=tk) (by simpa using K.IC I hm) k
  it:=hSt
  QT:=fun aha hJ=>⟨(c.QT aha hJ).1,(c.QT aha hJ).2.1,(c.QT aha hJ).2.2.1,by
   by_cases q:aha=I
   ·rw [q];exact hI
   ·obtain ⟨o,e⟩:=(c.QT aha hJ).2.2.2;exact ⟨o,k _ _ q e⟩⟩
  RE:=⟨c.RE.1,c.RE.2.1,c.RE.2.2.1,(by obtain ⟨o,e⟩:=c.RE.2.2.2;exact ⟨o,k _ _ (dz (K.ID I hm)) e⟩)⟩
  acc:=c.acc.keep (PM.le.refl _) (Pre.refl _) fun o e=>k _ _ (dz (K.ID I hm)) e}
theorem CL.target:∀ {t:Expr} {d:Lake.D} {v:ag} {ρ:Qm} (K:CK J W1 s1 Qq Is D) (hA:A.handled=none) (hk:uG Is St) (c:CL J W1 s1 Qh cst Qq Is D St o W s) (Ri:cst.own=none) (e:bv t d cst.ρ=some ρ) (ht:tQ Qh t=true) (hl:∀ x c,Qq.cells.lookup x=some c->True) (r:Rd J W.F W.as d v),aD (aC P0 J.w) A (assign t Qq v) (fun _ s'=>CL J W1 s1 Qh (cst.withRho ρ) Qq Is D St o W s') (fun _ _=>False) s:=by iterate 13
 have Td:∀ x∈oR t,Qh.names.lookup x=some .local:=fun x hx=>by unfold tQ at ht;rw [ai] at ht;have:=ak.mp ht.1 x hx;simpa using this
 refine af (uc (Y:=[Qq.locals]) hA e (fun x hx=>⟨?_,?_,?_,?_⟩) r c.er c.tr.ok) (fun _ s' ⟨k,er⟩=>?_) fun _ _ e=>e
 ·unfold pK;rw [Td x hx]
 ·unfold oO;rw [Ri]
 ·intro _;simp
 ·intro q;rw [Td x hx] at q;cases q
 ·have hI:∀ I∈Is,I∉[Qq.locals]:=fun I hm q=>K.IC I hm (by simp at q;rw [q];simp [am]);have hD:D∉[Qq.locals]:=fun q=>K.DC (by simp at q;rw [q];simp [am]);exact {
   tr:=c.tr.trans k (by intro a ha;simp at ha;subst ha;exact .inr K.nC)
   er:=er
   it:=hk _ _ _ _ c.it k.le k.as (fun I hm=>(c.QT I hm).at k (hI I hm))
   QT:=fun I hm=>(c.QT I hm).keep k
   RE:=c.RE.keep k
   acc:=c.acc.keep k.le k.as (c.RE.at k hD)}
theorem CL.grow:∀ {o':OW} {h':Heap} {tk:Nat} (K:CK J W1 s1 Qq Is D) (hk:uG Is St) (c:CL J W1 s1 Qh cst Qq Is D St o W s) (sb:bW D s.heap h') (hD:∃ o,h'.get? D=some o) (ho:QN J W h' o' D),CL J W1 s1 Qh cst Qq Is D St o' W {s with heap:=h',toks:=tk}:=by iterate 9
 exact (have k:∀ b o,b≠D->s.heap.get? b=some o->h'.get? b=some o:=fun b o hb e=>(sb.2 b hb).trans e
 {tr:=c.tr.Rw K.RO K.nD ⟨c.RE.1,c.RE.2.1,c.RE.2.2.1⟩ k
  er:=c.er.Tr (tk:=tk) (by simpa using K.DC) k
  it:=hk _ _ _ _ c.it (PM.le.refl _) (Pre.refl _) fun I hm o e=>k _ _ (K.ID I hm) e
  QT:=fun I hm=>⟨(c.QT I hm).1,(c.QT I hm).2.1,(c.QT I hm).2.2.1,(by obtain ⟨o,e⟩:=(c.QT I hm).2.2.2;exact ⟨o,k _ _ (K.ID I hm) e⟩)⟩
  RE:=⟨c.RE.1,c.RE.2.1,c.RE.2.2.1,hD⟩
  acc:=ho})
theorem CL.forget:∀ {Xv:Lake.St} (c:CL J W1 s1 Qh cst Qq Is D St o W s) (hv:∀ x d,varD Qh Xv x=some d->varD Qh cst x=some d) (ho:Xv.own=cst.own),CL J W1 s1 Qh Xv Qq Is D St o W s:=by iterate 4 exact ({c with er:=c.er.congr hv ho})
theorem CL.finish:∀ {h':Heap} {tk:Nat} {g:G} (K:CK J W1 s1 Qq Is D) (c:CL J W1 s1 Qh cst Qq Is D St o W s) (hg:W.H=g) (hm:I∈Is) (k:∀ b o,b≠I->s.heap.get? b=some o->h'.get? b=some o),uf J W1 s1 (Nq o) g (.ref D) Qq.locals (.ok .next) {s with heap:=h',toks:=tk}:=by iterate 8
 have t1:=c.tr.Rw (tk:=tk) K.RO (K.nI I hm) ⟨(c.QT I hm).1,(c.QT I hm).2.1,(c.QT I hm).2.2.1⟩ k;have RE:Apart J W h' D:=⟨c.RE.1,c.RE.2.1,c.RE.2.2.1,(by obtain ⟨o,e⟩:=c.RE.2.2.2;exact ⟨o,k _ _ (dz (K.ID I hm)) e⟩)⟩
 obtain ⟨ob,e,t2,r⟩:=wk t1 K.nD RE (c.acc.keep (PM.le.refl _) (Pre.refl _) fun o e=>k _ _ (dz (K.ID I hm)) e);obtain ⟨m,RZ⟩:=c.er.ns;have ZS:Qq.locals≠I:=fun q=>K.IC I hm (by rw [<-q];simp [am]);have hCD:Qq.locals≠D:=fun q=>K.DC (by rw [<-q];simp [am]);have apC:Apart J W h' Qq.locals:=by have z:=c.er.apart Qq.locals (by simp [am]);exact ⟨c.er.Wv,z.2.1,z.2.2.1,(by obtain ⟨o,e⟩:=z.2.2.2;exact ⟨o,k _ _ ZS e⟩)⟩
 refine ⟨rfl,_,t2,hg,r,?_,K.nC,m,Ns.keep RZ fun o e=>k _ _ ZS e⟩;exact Apart.Q3 (s:={s with heap:=h',toks:=tk}) apC hCD
theorem Kx:∀ {xs:List Lake.D} {a:Addr} {x:Lake.D} {v:ag} {h':Heap} {vs:Array ag} (hl:(xs++[x]).length<=lim) (r:Qo J W.F W.as xs vs.toList) (hx:Rd J W.F W.as x v) (p:bS h' a (vs.push v)),QN J W h' (.lst (xs++[x])) a:=by iterate 10 exact (⟨hl,_,p,by rw [gh];exact r.append (Qo.one hx)⟩)
end
noncomputable def AR (n:Nat) (Qh:aX) (cst:St) (t:Expr) (ifs:List Expr) (elt:Expr) (step:D->List D->G->Option (List D×G×Option D)):Prop:=
 ∀ d acc g r,step d acc g=some r->∃ ρ b g1,bv t d cst.ρ=some ρ/\ceIfs P0 n Qh (cst.withRho ρ) ifs g=some (b,g1)/\
  ((b=true/\∃ x g2,ceE P0 n Qh (cst.withRho ρ) elt g1=some (x,g2)/\r=(acc++[x],g2,none))\/(b=false/\r=(acc,g1,none)))
theorem pF:∀ {σ:Type} {step:D->σ->G->Option (σ×G×Option D)} {d:D} {ds:List D} {a:σ} {g:G} {r:σ×G×Option D} (h:iterLoop step (d::ds) a g=some r),(∃ a' g',step d a g=some (a',g',none)/\iterLoop step ds a' g'=some r)\/(∃ a' g' x,step d a g=some (a',g',some x)/\r=(a',g',some x)):=by iterate 8 obtain ⟨⟨a',g',x⟩,e,h⟩:=bi h;cases x with | none=>exact .inl ⟨a',g',e,h⟩ | some x=>cases h;exact .inr ⟨a',g',x,e,rfl⟩
theorem Hk:∀ {n:Nat} {Qh:aX} {cst:St} {t:Expr} {ifs:List Expr} {elt:Expr} {step:D->List D->G->Option (List D×G×Option D)} (hs:AR n Qh cst t ifs elt step),∀ {ds:List D} {acc:List D} {g:G} {QI:List D} {gF:G} {rr:Option D},iterLoop step ds acc g=some (QI,gF,rr)->acc.length<=QI.length/\rr=none:=by iterate 8
 intro ds;induction ds with
 | nil=>intro acc g QI gF rr h;cases h;exact ⟨bN _,rfl⟩
 | cons d ds ih=>
  intro acc g QI gF rr h;rcases pF h with ⟨a',g',e,h⟩ | ⟨a',g',x,e,h⟩
  ·have ih:=ih h;obtain ⟨ρ,b,g1,_,_,h3⟩:=hs _ _ _ _ e;rcases h3 with ⟨_,y,g2,_,h4⟩ | ⟨_,h4⟩
   ·cases h4;rw [aw] at ih;exact ⟨bw (d9 _ _) ih.1,ih.2⟩
   ·cases h4;exact ih
  ·obtain ⟨ρ,b,g1,_,_,h3⟩:=hs _ _ _ _ e;rcases h3 with ⟨_,y,g2,_,h4⟩ | ⟨_,h4⟩<;>cases h4
section
variable {J:Cx} {A:bf} {W W1:Wd} {s s1:ah} {Qh:aX} {cst:St} {Qq:Env} {I Da:Addr} {n:Nat}
theorem pP:∀ {x:Str} {d:D} {ρ:Qm} (UK:cst.ρ=[]) (e:varD Qh cst x=some d),varD Qh (cst.withRho ρ) x=some d:=by iterate 5 unfold varD at e ⊢;unfold St.withRho;cases q:Qh.names.lookup x with | none=>rw [q] at e;cases e | some k=>rw [q,UK] at e;cases k<;>simp at e ⊢;exact e
theorem Cf:∀ {t it elt:Expr} {ifs:List Expr} {pos:Pos} {step:D->List D->G->Option (List D×G×Option D)} {QI:List D} {gF:G} {rr:Option D} {St:List D->Wd->Heap->Prop} {ds acc:List D} {g:G} (ok:Ok J n) (K:CK J W1 s1 Qq [I] Da) (hA:Qs n A) (hs:AR n Qh cst t ifs elt step) (UK:cst.ρ=[]) (Ri:cst.own=none) (ht:tQ Qh t=true) (hit:QO J I St) (QS:QI.length<=lim) (QG:iterLoop step ds acc g=some (QI,gF,rr)) (c:CL J W1 s1 Qh cst Qq [I] Da (St ds) (.lst acc) W s) (hg:W.H=g),bQ (aC P0 J.w) A (.compLoop (.ListComp elt [⟨t,it,ifs,0⟩] Qh pos) 0 (.ref I) (.ref Da) Qq) (uf J W1 s1 (.lst QI) gF (.ref Da) Qq.locals) s:=by iterate 25
 refine EJ (fun k s'=>∃ W' Ra QP g',k=Ra.length+1/\iterLoop step Ra QP g'=some (QI,gF,rr)/\CL J W1 s1 Qh cst Qq [I] Da (St Ra) (.lst QP) W' s'/\W'.H=g') ?_ (ds.length+1) ⟨W,ds,acc,g,rfl,QG,c,hg⟩;rintro k s' ⟨W',Ra,QP,g',rfl,QG,c,hg⟩;have hk:uG [I] (St Ra):=fun W W' h h' a b c d=>hit.keep _ _ _ _ _ a b c (d I (by simp));cases Ra with
 | nil=>cases QG;exact hit.done A W' s' _ _ hA.1 c.it c.tr.ok.sub (c.QT I (by simp)).1 fun h' tk kk=>c.finish (o:= .lst _) K hg (by simp) kk
 | cons d QD=>
  rcases pF QG with ⟨a',V3,e,Rj⟩ | ⟨a',V3,x,e,_⟩
  ·obtain ⟨ρ,b,g1,e1,e2,e3⟩:=hs _ _ _ _ e;refine hit.next A W' s' d QD _ _ hA.1 c.it c.tr.ok.sub (c.QT I (by simp)).1 fun v h' tk rv Rz hI kk lg=>?_;have c1:=c.next (St':=St QD) (tk:=tk) K (by simp) kk hI Rz;have Ss:uG [I] (St QD):=fun W W' h h' a b c d=>hit.keep _ _ _ _ _ a b c (d I (by simp));refine lg A t _ _ _ rfl ?_;refine af (c1.target K hA.1 Ss Ri e1 ht (fun _ _ _=>trivial) rv) (fun _ s2 c2=>?_) fun _ _ f=>f;refine Ex.into (ok.ifs e2 hg c2.tr.ok c2.er hA) fun bb W3 s3 k3 z0=>?_;obtain ⟨hb,Sf⟩:=z0;subst hb;have c3:=c2.step k3 fun a b c d=>Ss _ _ _ _ a b c d;rcases e3 with ⟨hb,y,g2,e4,e5⟩ | ⟨hb,e5⟩
   ·rw [if_pos hb];cases e5;refine Ex.into (ok.e e4 Sf c3.tr.ok c3.er hA) fun yv W4 s4 k4 z1=>?_;obtain ⟨Uz,ry⟩:=z1;have c4:=c3.step k4 fun a b c d=>Ss _ _ _ _ a b c d;have hl:=(Hk hs Rj).1;have XD:=c4.acc;obtain ⟨hl4,vs,p4,r4⟩:=XD;have UL:vs.size=QP.length:=by rw [<-r4.length,bA]
    refine ji p4 (fun h5 p5 sb=>?_) (by have:=pe;omega);refine ⟨QD.length+1,by simp,W4,QD,QP++[y],_,rfl,Rj,?_,Uz⟩;have c5:=CL.grow (tk:=s4.toks) (o':= .lst (QP++[y])) K Ss c4 sb (by obtain ⟨o,_,e,_⟩:=p5;exact ⟨o,e⟩) (Kx (bw hl QS) r4 ry p5);exact c5.forget (fun x d e=>pP UK e) rfl
   ·rw [if_neg (by simp [hb])];cases e5;exact ⟨QD.length+1,by simp,W3,QD,QP,_,rfl,Rj,c3.forget (fun x d e=>pP UK e) rfl,Sf⟩
  ·obtain ⟨ρ,b,g1,_,_,h3⟩:=hs _ _ _ _ e;rcases h3 with ⟨_,y,g2,_,h4⟩ | ⟨_,h4⟩<;>cases h4
noncomputable def Aw (n:Nat) (Qh:aX) (cst:St) (t:Expr) (ifs:List Expr) (kx vx:Expr) (step:D->List (Int×Int)->G->Option (List (Int×Int)×G×Option D)):Prop:=
 ∀ d acc g r,step d acc g=some r->∃ ρ b g1,bv t d cst.ρ=some ρ/\ceIfs P0 n Qh (cst.withRho ρ) ifs g=some (b,g1)/\
  ((b=true/\∃ x g2 y g3,ceE P0 n Qh (cst.withRho ρ) kx g1=some (.int x,g2)/\ceE P0 n Qh (cst.withRho ρ) vx g2=some (.int y,g3)/\r=(put x y acc,g3,none))\/(b=false/\r=(acc,g1,none)))
theorem JG:∀ (k v:Int) (l:List (Int×Int)),l.length<=(put k v l).length:=by iterate 3
 induction l with
 | nil=>exact jL _
 | cons p r ih=>
  dsimp only [put];split
  ·exact bN _
  ·exact Nat.succ_le_succ ih
theorem Fg:∀ {n:Nat} {Qh:aX} {cst:St} {t:Expr} {ifs:List Expr} {kx vx:Expr} {step:D->List (Int×Int)->G->Option (List (Int×Int)×G×Option D)} (hs:Aw n Qh cst t ifs kx vx step),∀ {ds:List D} {acc:List (Int×Int)} {g:G} {QI:List (Int×Int)} {gF:G} {rr:Option D},iterLoop step ds acc g=some (QI,gF,rr)->acc.length<=QI.length:=by iterate 9
 intro ds;induction ds with
 | nil=>intro acc g QI gF rr h;cases h;exact bN _
 | cons d ds ih=>
  intro acc g QI gF rr h;rcases pF h with ⟨a',g',e,h⟩ | ⟨a',g',x,e,h⟩
  ·have ih:=ih h;obtain ⟨ρ,b,g1,_,_,h3⟩:=hs _ _ _ _ e;rcases h3 with ⟨_,x,g2,y,g3,_,_,h4⟩ | ⟨_,h4⟩
   ·cases h4;exact bw (JG ..) ih
   ·cases h4;exact ih
  ·obtain ⟨ρ,b,g1,_,_,h3⟩:=hs _ _ _ _ e;rcases h3 with ⟨_,y,g2,_,_,_,_,h4⟩ | ⟨_,h4⟩<;>cases h4
theorem BR:∀ {t it kx vx:Expr} {ifs:List Expr} {pos:Pos} {step:D->List (Int×Int)->G->Option (List (Int×Int)×G×Option D)} {QI:List (Int×Int)} {gF:G} {rr:Option D} {St:List D->Wd->Heap->Prop} {ds:List D} {acc:List (Int×Int)} {g:G} (ok:Ok J n) (K:CK J W1 s1 Qq [I] Da) (hA:Qs n A) (hs:Aw n Qh cst t ifs kx vx step) (UK:cst.ρ=[]) (Ri:cst.own=none) (ht:tQ Qh t=true) (hit:QO J I St) (QS:QI.length<=lim) (QG:iterLoop step ds acc g=some (QI,gF,rr)) (c:CL J W1 s1 Qh cst Qq [I] Da (St ds) (.QC acc) W s) (hg:W.H=g),bQ (aC P0 J.w) A (.compLoop (.DictComp kx vx [⟨t,it,ifs,0⟩] Qh pos) 0 (.ref I) (.ref Da) Qq) (uf J W1 s1 (.QC QI) gF (.ref Da) Qq.locals) s:=by iterate 26
 refine D8 (fun k s'=>∃ W' Ra QP g',k=Ra.length+1/\iterLoop step Ra QP g'=some (QI,gF,rr)/\CL J W1 s1 Qh cst Qq [I] Da (St Ra) (.QC QP) W' s'/\W'.H=g') ?_ (ds.length+1) ⟨W,ds,acc,g,rfl,QG,c,hg⟩;rintro k s' ⟨W',Ra,QP,g',rfl,QG,c,hg⟩;cases Ra with
 | nil=>cases QG;exact hit.done A W' s' _ _ hA.1 c.it c.tr.ok.sub (c.QT I (by simp)).1 fun h' tk kk=>c.finish (o:= .QC _) K hg (by simp) kk
 | cons d QD=>
  rcases pF QG with ⟨a',V3,e,Rj⟩ | ⟨a',V3,x,e,_⟩
  ·obtain ⟨ρ,b,g1,e1,e2,e3⟩:=hs _ _ _ _ e;refine hit.next A W' s' d QD _ _ hA.1 c.it c.tr.ok.sub (c.QT I (by simp)).1 fun v h' tk rv Rz hI kk lg=>?_;have c1:=c.next (St':=St QD) (tk:=tk) K (by simp) kk hI Rz;have Ss:uG [I] (St QD):=fun W W' h h' a b c d=>hit.keep _ _ _ _ _ a b c (d I (by simp));refine lg A t _ _ _ rfl ?_;refine af (c1.target K hA.1 Ss Ri e1 ht (fun _ _ _=>trivial) rv) (fun _ s2 c2=>?_) fun _ _ f=>f;refine Ex.into (ok.ifs e2 hg c2.tr.ok c2.er hA) fun bb W3 s3 k3 z2=>?_;obtain ⟨hb,Sf⟩:=z2;subst hb;have c3:=c2.step k3 fun a b c d=>Ss _ _ _ _ a b c d;rcases e3 with ⟨hb,x,g2,y,g3,e4,e5,e6⟩ | ⟨hb,e5⟩
   ·rw [if_pos hb];cases e6;refine Ex.into (ok.e e4 Sf c3.tr.ok c3.er hA) fun xv W4 s4 k4 z3=>?_;obtain ⟨Uz,rx⟩:=z3;have c4:=c3.step k4 fun a b c d=>Ss _ _ _ _ a b c d;refine Ex.into (ok.e e5 Uz c4.tr.ok c4.er hA) fun yv W5 s5 k5 z4=>?_;obtain ⟨VU,ry⟩:=z4;have c5:=c4.step k5 fun a b c d=>Ss _ _ _ _ a b c d;have hl:=Fg hs Rj;have ab3:=c5.acc;obtain ⟨hl5,U8,ws,p5,r5⟩:=ab3;obtain ⟨tx,rfl⟩:=rx;obtain ⟨ty,rfl⟩:=ry;refine wpAny_dictSet_pairs (knd:=IK J) (k:=x) (decide_eq_true rfl) p5 (fun h6 p6 sb=>?_) (by have:=pe;rw [r5.length];omega);refine ⟨QD.length+1,by simp,W5,QD,put x y QP,_,rfl,Rj,?_,VU⟩;have WX:(ws.map (·.1)).Nodup:=by obtain ⟨_,_,_,_,_,_,_,_,h⟩:=p5;exact h
    have c6:=CL.grow (tk:=s5.toks+1) (o':= .QC (put x y QP)) K Ss c5 sb (by obtain ⟨o,_,_,e,_⟩:=p6;exact ⟨o,e⟩) ⟨bw hl QS,U8,_,p6,Db r5 WX⟩;exact c6.forget (fun x d e=>pP UK e) rfl
   ·rw [if_neg (by simp [hb])];cases e5;exact ⟨QD.length+1,by simp,W3,QD,QP,_,rfl,Rj,c3.forget (fun x d e=>pP UK e) rfl,Sf⟩
  ·obtain ⟨ρ,b,g1,_,_,h3⟩:=hs _ _ _ _ e;rcases h3 with ⟨_,y,g2,_,_,_,_,h4⟩ | ⟨_,h4⟩<;>cases h4
end
noncomputable abbrev SO (elt t1 SW t2 it2:Expr) (scope:aX) (pos:Pos):Expr:= .ListComp elt [⟨t1,SW,[],0⟩,⟨t2,it2,[],0⟩] scope pos
theorem KN (elt t1 SW t2 it2:Expr) (scope:aX) (pos:Pos) (it acc:ag) (env:Env):
  kf (SO elt t1 SW t2 it2 scope pos) 0 it acc env=(ky SW.pos >>=fun _=>eF it >>=fun r=>match r with
   | none=>pure (.done .next)
   | some v=>cH t1 it v >>=fun _=>assign t1 env v >>=fun _=>
    eval it2 env >>=fun x=>ky it2.pos >>=fun _=>gX it2 env x >>=fun x=>
     lH [x] (kz x) >>=fun jt=>runOwn (.compStart (SO elt t1 SW t2 it2 scope pos) 1 jt acc env) env >>=fun _=>
     again (.compLoop (SO elt t1 SW t2 it2 scope pos) 0 it acc env)):=by rfl
theorem Lu (elt t1 SW t2 it2:Expr) (scope:aX) (pos:Pos) (it acc:ag) (env:Env):
  kf (SO elt t1 SW t2 it2 scope pos) 1 it acc env=(ky it2.pos >>=fun _=>eF it >>=fun r=>match r with
   | none=>pure (.done .next)
   | some v=>cH t2 it v >>=fun _=>assign t2 env v >>=fun _=>(eval elt env >>=fun x=>call (.builtin "list.append") [acc,x] >>=fun _=>pure ()) >>=fun _=>again (.compLoop (SO elt t1 SW t2 it2 scope pos) 1 it acc env)):=by rfl
section
variable {J:Cx} {A:bf} {E:ag->ah->Prop} {R:iy->ah->Prop} {s:ah}
theorem JL:∀ {elt t1 SW t2 it2:Expr} {scope:aX} {pos:Pos} {it acc:ag} {env:Env} (h0:bQ (aC P0 J.w) A (.compLoop (SO elt t1 SW t2 it2 scope pos) 1 it acc env) R s) (h:aD (aC P0 J.w) A (kz it) (fun it' s'=>bQ (aC P0 J.w) A (.compLoop (SO elt t1 SW t2 it2 scope pos) 1 it' acc env) R s') (fun _ _=>False) s),bQ (aC P0 J.w) A (.compStart (SO elt t1 SW t2 it2 scope pos) 1 it acc env) R s:=by iterate 12
 refine codeAny_of_tree ?_;show aD _ _ ((compStart (SO elt t1 SW t2 it2 scope pos) 1 it acc env).onRaise (fun x=>do gW x env;ky theWindowsPlace)) _ _ s;refine wpAny_notedAt ?_;unfold compStart;show aD _ _ (ask >>=_) _ _ s;refine ae (wpAny_askSetting (wpAny_ite ?_));split
 ·first
   | exact ae (ay (ay (lj rfl h0)))
   | exact ay (lj rfl h0)
 ·first
   | exact ae (ll (ae (bt (ae (af h (fun it' s' h'=>ay (lj rfl h')) fun _ _ x=>x.elim)))))
   | (refine ae (ll ?_);show aD _ _ (ky it2.pos >>=_) _ _ s;exact ae (bt (ae (af h (fun it' s' h'=>ay (lj rfl h')) fun _ _ x=>x.elim))))
theorem Li:∀ {elt t1 SW t2 it2:Expr} {scope:aX} {pos:Pos} {it acc:ag} {env:Env} (I:Nat->ah->Prop) (turn:∀ n s,I n s->aD (aC P0 J.w) A (eF it) (fun r Qg=>match r with
   | none=>R (.ok .next) Qg
   | some v=>aD (aC P0 J.w) A (cH t2 it v) (fun _ Qp=>aD (aC P0 J.w) A (assign t2 env v) (fun _ Q4=>
     aD (aC P0 J.w) A (eval elt env) (fun x RN=>aD (aC P0 J.w) A (call (.builtin "list.append") [acc,x]) (fun _ Sy=>∃ m,m<n/\I m Sy) (fun _ _=>False) RN) (fun _ _=>False) Q4)
     (fun _ _=>False) Qp) (fun _ _=>False) Qg) (fun _ _=>False) s) (n:Nat) (h:I n s),bQ (aC P0 J.w) A (.compLoop (SO elt t1 SW t2 it2 scope pos) 1 it acc env) R s:=by iterate 14
 refine jU rfl I (fun n s hI=>?_) n h;show aD _ A ((kf (SO elt t1 SW t2 it2 scope pos) 1 it acc env).onRaise (fun x=>do gW x env;dY x)) _ _ s;refine kq ?_;rw [Lu];refine ae (bt (ae (af (turn n s hI) (fun r Qg QZ=>?_) fun _ _ h'=>h'.elim)));cases r with | none=>exact ay QZ | some v=>refine ae (af QZ (fun _ Qp SG=>?_) fun _ _ h'=>h'.elim);refine ae (af SG (fun _ Q4 Rt=>?_) fun _ _ h'=>h'.elim);exact ae (ae (af Rt (fun x RN SY=>ae (af SY (fun _ Sy SX=>ay (ay ⟨rfl,SX⟩)) fun _ _ h'=>h'.elim)) fun _ _ h'=>h'.elim))
theorem Lj:∀ {elt t1 SW t2 it2:Expr} {scope:aX} {pos:Pos} {it acc:ag} {env:Env} (I:Nat->ah->Prop) (turn:∀ n s,I n s->aD (aC P0 J.w) A (eF it) (fun r Qg=>match r with
   | none=>R (.ok .next) Qg
   | some v=>aD (aC P0 J.w) A (cH t1 it v) (fun _ Qp=>aD (aC P0 J.w) A (assign t1 env v) (fun _ Q4=>
     aD (aC P0 J.w) A (eval it2 env) (fun x QK=>aD (aC P0 J.w) A (gX it2 env x) (fun x QK=>aD (aC P0 J.w) A (kz x) (fun jt RN=>bQ (aC P0 J.w) A (.compStart (SO elt t1 SW t2 it2 scope pos) 1 jt acc env) (fun r Sy=>∃ f,r= .ok f/\∃ m,m<n/\I m Sy) RN) (fun _ _=>False) QK) (fun _ _=>False) QK) (fun _ _=>False) Q4)
     (fun _ _=>False) Qp) (fun _ _=>False) Qg) (fun _ _=>False) s) (n:Nat) (h:I n s),bQ (aC P0 J.w) A (.compLoop (SO elt t1 SW t2 it2 scope pos) 0 it acc env) R s:=by iterate 14
 refine jU rfl I (fun n s hI=>?_) n h;show aD _ A ((kf (SO elt t1 SW t2 it2 scope pos) 0 it acc env).onRaise (fun x=>do gW x env;dY x)) _ _ s;refine kq ?_;rw [KN];refine ae (bt (ae (af (turn n s hI) (fun r Qg QZ=>?_) fun _ _ h'=>h'.elim)));cases r with | none=>exact ay QZ | some v=>refine ae (af QZ (fun _ Qp SG=>?_) fun _ _ h'=>h'.elim);refine ae (af SG (fun _ Q4 Rt=>?_) fun _ _ h'=>h'.elim);refine ae (af Rt (fun x QK RS=>ae (bt (ae (af RS (fun x QK RS=>ae (bu (af RS (fun jt RN SY=>?_) fun _ _ h'=>h'.elim))) fun _ _ h'=>h'.elim)))) fun _ _ h'=>h'.elim);refine ae (wpAny_runOwn (cP SY fun r Sy hr=>?_));obtain ⟨f,rfl,hm⟩:=hr;exact ay ⟨rfl,hm⟩
end
noncomputable def B9 (n:Nat) (Qh:aX) (cst:St) (t:Expr) (elt:Expr) (step:D->List D->G->Option (List D×G×Option D)):Prop:=
 ∀ d acc g r,step d acc g=some r->∃ ρ x g2,bv t d cst.ρ=some ρ/\ceE P0 n Qh (cst.withRho ρ) elt g=some (x,g2)/\r=(acc++[x],g2,none)
noncomputable def yO (n:Nat) (Qh:aX) (cst:St) (t t2 it2 elt:Expr) (step:D->List D->G->Option (List D×G×Option D)):Prop:=
 ∀ d acc g r,step d acc g=some r->∃ ρ d2 g1 UC Sh g2 x inner,bv t d cst.ρ=some ρ/\ceE P0 n Qh (cst.withRho ρ) it2 g=some (d2,g1)/\itemsOf d2=some UC/\
  B9 n Qh (cst.withRho ρ) t2 elt inner/\iterLoop inner UC acc g1=some (Sh,g2,x)/\r=(Sh,g2,none)
theorem Gg:∀ {n:Nat} {Qh:aX} {cst:St} {t elt:Expr} {step:D->List D->G->Option (List D×G×Option D)} (hs:B9 n Qh cst t elt step),∀ {ds:List D} {acc:List D} {g:G} {QI:List D} {gF:G} {rr:Option D},iterLoop step ds acc g=some (QI,gF,rr)->acc.length<=QI.length:=by iterate 7
 intro ds;induction ds with
 | nil=>intro acc g QI gF rr h;cases h;exact bN _
 | cons d ds ih=>
  intro acc g QI gF rr h;rcases pF h with ⟨a',g',e,h⟩ | ⟨a',g',x,e,h⟩
  ·have ih:=ih h;obtain ⟨ρ,x,g2,_,_,h4⟩:=hs _ _ _ _ e;cases h4;rw [aw] at ih;exact bw (d9 _ _) ih
  ·obtain ⟨ρ,x,g2,_,_,h4⟩:=hs _ _ _ _ e;cases h4
theorem EC:∀ {n:Nat} {Qh:aX} {cst:St} {t t2 it2 elt:Expr} {step:D->List D->G->Option (List D×G×Option D)} (hs:yO n Qh cst t t2 it2 elt step),∀ {ds:List D} {acc:List D} {g:G} {QI:List D} {gF:G} {rr:Option D},iterLoop step ds acc g=some (QI,gF,rr)->acc.length<=QI.length:=by iterate 9
 intro ds;induction ds with
 | nil=>intro acc g QI gF rr h;cases h;exact bN _
 | cons d ds ih=>
  intro acc g QI gF rr h;rcases pF h with ⟨a',g',e,h⟩ | ⟨a',g',x,e,h⟩
  ·have ih:=ih h;obtain ⟨ρ,d2,g1,UC,Sh,g2,x,inner,_,_,_,h5,h6,h7⟩:=hs _ _ _ _ e;cases h7;exact bw (Gg h5 h6) ih
  ·obtain ⟨ρ,d2,g1,UC,Sh,g2,x,inner,_,_,_,h5,h6,h7⟩:=hs _ _ _ _ e;cases h7
theorem wC:∀ {t:Expr} {d:D} {ρ Sa:Qm} {x:Str} (e:bv t d ρ=some Sa) (hd:cr (oR t)=true) (hx:x∉oR t),Sa.lookup x=ρ.lookup x:=by iterate 8
 rcases qy e with ⟨y,p,rfl,rfl⟩ | ⟨xps,ds,k,p,rfl,_,hl,rfl⟩
 ·exact qi fun q=>hx (show x∈[y] from ej.mpr q)
 ·rw [qR] at hx hd;exact (uJ hd (by simpa using hl)).1 x hx
section
variable {J:Cx} {A:bf} {W W1:Wd} {s s1:ah} {Qh:aX} {cst:St} {Qq:Env} {I aha Da:Addr} {n:Nat}
theorem AS:∀ {t it t2 it2 elt:Expr} {pos:Pos} {step:D->List D->G->Option (List D×G×Option D)} {Sh:List D} {g2:G} {rr:Option D} {XZ XE:List D->Wd->Heap->Prop} {Y9:List D} {ds acc:List D} {g:G} (ok:Ok J n) (K:CK J W1 s1 Qq [aha,I] Da) (hA:Qs n A) (hs:B9 n Qh cst t2 elt step) (Ri:cst.own=none) (ht:tQ Qh t2=true) (Xg:∀ d ρ x e,bv t2 d cst.ρ=some ρ->varD Qh cst x=some e->varD Qh (cst.withRho ρ) x=some e) (Xb:QO J I XZ) (TX:QO J aha XE) (QS:Sh.length<=lim) (Y2:I≠aha) (QG:iterLoop step ds acc g=some (Sh,g2,rr)) (c:CL J W1 s1 Qh cst Qq [aha,I] Da (fun W h=>XE ds W h/\XZ Y9 W h) (.lst acc) W s) (hg:W.H=g),bQ (aC P0 J.w) A (.compLoop (SO elt t it t2 it2 Qh pos) 1 (.ref aha) (.ref Da) Qq) (fun r s'=>r= .ok .next/\∃ W',CL J W1 s1 Qh cst Qq [I] Da (XZ Y9) (.lst Sh) W' s'/\W'.H=g2) s:=by iterate 30
 refine Li (fun k s'=>∃ W' Ra QP g',k=Ra.length+1/\iterLoop step Ra QP g'=some (Sh,g2,rr)/\CL J W1 s1 Qh cst Qq [aha,I] Da (fun W h=>XE Ra W h/\XZ Y9 W h) (.lst QP) W' s'/\W'.H=g') ?_ (ds.length+1) ⟨W,ds,acc,g,rfl,QG,c,hg⟩;rintro k s' ⟨W',Ra,QP,g',rfl,QG,c,hg⟩;cases Ra with
 | nil=>
  cases QG;refine TX.done A W' s' _ _ hA.1 c.it.1 c.tr.ok.sub (c.QT aha (by simp)).1 fun h' tk kk=>?_;have hD:Da≠aha:=dz (K.ID aha (by simp));refine ⟨rfl,W',?_,hg⟩;exact {
   tr:=c.tr.Rw K.RO (K.nI aha (by simp)) ⟨(c.QT aha (by simp)).1,(c.QT aha (by simp)).2.1,(c.QT aha (by simp)).2.2.1⟩ kk
   er:=c.er.Tr (tk:=tk) (by simpa using K.IC aha (by simp)) kk
   it:=Xb.keep _ _ _ _ _ c.it.2 (PM.le.refl _) (Pre.refl _) fun o e=>kk _ _ Y2 e
   QT:=fun a ha=>by simp at ha;subst ha;have z:=c.QT a (by simp);exact ⟨z.1,z.2.1,z.2.2.1,(by obtain ⟨o,e⟩:=z.2.2.2;exact ⟨o,kk _ _ Y2 e⟩)⟩
   RE:=⟨c.RE.1,c.RE.2.1,c.RE.2.2.1,(by obtain ⟨o,e⟩:=c.RE.2.2.2;exact ⟨o,kk _ _ hD e⟩)⟩
   acc:=c.acc.keep (PM.le.refl _) (Pre.refl _) fun o e=>kk _ _ hD e}
 | cons d QD=>
  rcases pF QG with ⟨a',V3,e,Rj⟩ | ⟨a',V3,x,e,_⟩
  ·obtain ⟨ρ,y,g3,e1,e4,e5⟩:=hs _ _ _ _ e;refine TX.next A W' s' d QD _ _ hA.1 c.it.1 c.tr.ok.sub (c.QT aha (by simp)).1 fun v h' tk rv Rz hJ kk lg=>?_;have Ss:uG [aha,I] (fun W h=>XE QD W h/\XZ Y9 W h):=fun W W' h h' a b c d=>⟨TX.keep _ _ _ _ _ a.1 b c (d aha (by simp)),Xb.keep _ _ _ _ _ a.2 b c (d I (by simp))⟩
   have c1:=c.next (St':=fun W h=>XE QD W h/\XZ Y9 W h) (tk:=tk) K (I:=aha) (by simp) kk hJ ⟨Rz,Xb.keep _ _ _ _ _ c.it.2 (PM.le.refl _) (Pre.refl _) fun o e=>kk _ _ Y2 e⟩;refine lg A t2 _ _ _ rfl ?_;refine af (c1.target K hA.1 Ss Ri e1 ht (fun _ _ _=>trivial) rv) (fun _ s2 c2=>?_) fun _ _ f=>f;cases e5;refine Ex.into (ok.e e4 hg c2.tr.ok c2.er hA) fun yv W4 s4 k4 z0=>?_;obtain ⟨Uz,ry⟩:=z0;have c4:=c2.step k4 fun a b c d=>Ss _ _ _ _ a b c d;have hl:=Gg hs Rj;have XD:=c4.acc;obtain ⟨hl4,vs,p4,r4⟩:=XD;have UL:vs.size=QP.length:=by rw [<-r4.length,bA]
   refine ji p4 (fun h5 p5 sb=>?_) (by have:=pe;omega);refine ⟨QD.length+1,by simp,W4,QD,QP++[y],_,rfl,Rj,?_,Uz⟩;have c5:=CL.grow (tk:=s4.toks) (o':= .lst (QP++[y])) K Ss c4 sb (by obtain ⟨o,_,e,_⟩:=p5;exact ⟨o,e⟩) (Kx (bw hl QS) r4 ry p5);exact c5.forget (fun x d e=>Xg _ _ _ _ e1 e) rfl
  ·obtain ⟨ρ,y,g3,e1,e4,e5⟩:=hs _ _ _ _ e;cases e5
theorem wy:∀ {sc:aX} {st:St} {es:List Expr} {k:Nat} {p:Pos} {g:G} {r:D×G},ceE P0 n sc st (.Set es k p) g≠some r:=by iterate 7 intro h;cases n<;>cases h
theorem vO:∀ {sc:aX} {st:St} {e:Expr} {g:G} {r:D×G} {env:Env} (h:ceE P0 n sc st e g=some r) (x:ag),gX e env x=pure x:=by iterate 8 cases e<;>first | rfl | exact absurd h wy
theorem Cr:∀ {t it t2 it2 elt:Expr} {pos:Pos} {step:D->List D->G->Option (List D×G×Option D)} {QI:List D} {gF:G} {rr:Option D} {St:List D->Wd->Heap->Prop} {ds acc:List D} {g:G} (ok:Ok J n) (K:CK J W1 s1 Qq [I] Da) (hA:Qs n A) (hs:yO n Qh cst t t2 it2 elt step) (UK:cst.ρ=[]) (Ri:cst.own=none) (ht:tQ Qh t=true) (Uw:tQ Qh t2=true) (Ua:cr (oR t++oR t2)=true) (hit:QO J I St) (QS:QI.length<=lim) (QG:iterLoop step ds acc g=some (QI,gF,rr)) (c:CL J W1 s1 Qh cst Qq [I] Da (St ds) (.lst acc) W s) (hg:W.H=g),bQ (aC P0 J.w) A (.compLoop (SO elt t it t2 it2 Qh pos) 0 (.ref I) (.ref Da) Qq) (uf J W1 s1 (.lst QI) gF (.ref Da) Qq.locals) s:=by iterate 28
 refine Lj (fun k s'=>∃ W' Ra QP g',k=Ra.length+1/\iterLoop step Ra QP g'=some (QI,gF,rr)/\CL J W1 s1 Qh cst Qq [I] Da (St Ra) (.lst QP) W' s'/\W'.H=g') ?_ (ds.length+1) ⟨W,ds,acc,g,rfl,QG,c,hg⟩;rintro k s' ⟨W',Ra,QP,g',rfl,QG,c,hg⟩;cases Ra with
 | nil=>cases QG;exact hit.done A W' s' _ _ hA.1 c.it c.tr.ok.sub (c.QT I (by simp)).1 fun h' tk kk=>c.finish (o:= .lst _) K hg (by simp) kk
 | cons d QD=>
  rcases pF QG with ⟨a',V3,e,Rj⟩ | ⟨a',V3,x,e,_⟩
  ·obtain ⟨ρ,d2,g1,UC,Sh,g2,x,inner,e1,e2,e3,e4,e5,e6⟩:=hs _ _ _ _ e;cases e6;refine hit.next A W' s' d QD _ _ hA.1 c.it c.tr.ok.sub (c.QT I (by simp)).1 fun v h' tk rv Rz hI kk lg=>?_;have c1:=c.next (St':=St QD) (tk:=tk) K (by simp) kk hI Rz;have Ss:uG [I] (St QD):=fun W W' h h' a b c d=>hit.keep _ _ _ _ _ a b c (d I (by simp));refine lg A t _ _ _ rfl ?_;refine af (c1.target K hA.1 Ss Ri e1 ht (fun _ _ _=>trivial) rv) (fun _ s2 c2=>?_) fun _ _ f=>f;refine Ex.into (ok.e e2 hg c2.tr.ok c2.er hA) fun xv W3 s3 k3 z1=>?_;obtain ⟨Sf,rx⟩:=z1;have c3:=c2.step k3 fun a b c d=>Ss _ _ _ _ a b c d;refine gb (vO e2 xv) ?_;refine af (wj e3 rx c3.tr.ok) (fun jt s4 z2=>?_) fun _ _ f=>f;obtain ⟨aha,XE,hjt,TX,WL,Yr,k4⟩:=z2;subst hjt;have c4:=c3.step k4 fun a b c d=>Ss _ _ _ _ a b c d;have hJ1:s1.heap.get? aha=none:=c3.tr.Qt Yr;have thJ:∃ o,s4.heap.get? aha=some o:=TX.there _ _ _ WL;have Y8:∃ o,s3.heap.get? I=some o:=(c3.QT I (by simp)).2.2.2;have Y2:I≠aha:=fun q=>by obtain ⟨o,e⟩:=Y8;rw [q,Yr] at e;cases e
   have hJf:aha∉am Qq:=fun hm=>by obtain ⟨_,_,_,o,e⟩:=c3.er.apart aha (aE _ hm);rw [Yr] at e;cases e
   have hJD:aha≠Da:=fun q=>by obtain ⟨o,e⟩:=c3.RE.2.2.2;rw [<-q,Yr] at e;cases e
   have K2:CK J W1 s1 Qq [aha,I] Da:={
    RO:=K.RO
    nI:=fun a ha=>by
     rcases aq.mp ha with rfl | ha
     ·exact hJ1
     ·exact K.nI a ha
    nD:=K.nD
    nC:=K.nC
    ID:=fun a ha=>by
     rcases aq.mp ha with rfl | ha
     ·exact hJD
     ·exact K.ID a ha
    IC:=fun a ha=>by
     rcases aq.mp ha with rfl | ha
     ·exact hJf
     ·exact K.IC a ha
    DC:=K.DC}
   have nJ:=c3.tr.ok.QL Yr;have c5:CL J W1 s1 Qh (cst.withRho ρ) Qq [aha,I] Da (fun W h=>XE UC W h/\St QD W h) (.lst QP) W3 s4:={
    tr:=c4.tr
    er:=c4.er
    it:=⟨WL,c4.it⟩
    QT:=fun a ha=>by
     rcases aq.mp ha with rfl | ha
     ·exact ⟨nJ.1,nJ.2.1,nJ.2.2,thJ⟩
     ·exact c4.QT a ha
    RE:=c4.RE
    acc:=c4.acc}
   have hl:=bw (EC hs Rj) QS;have Xg:∀ d Sa x e,bv t2 d (cst.withRho ρ).ρ=some Sa->varD Qh (cst.withRho ρ) x=some e->varD Qh ((cst.withRho ρ).withRho Sa) x=some e:=fun d Sa x e hb hv=>by
    have hd2:cr (oR t2)=true:=by unfold tQ at Uw;rw [ai] at Uw;exact Uw.2
    have YL:cr (oR t)=true:=by unfold tQ at ht;rw [ai] at ht;exact ht.2
    have key:∀ e,ρ.lookup x=some e->Sa.lookup x=some e:=fun e h=>by
     have hx1:x∈oR t:=by
      by_cases q:x∈oR t
      ·exact q
      ·rw [wC e1 YL q,UK] at h;cases h
     have hx2:x∉oR t2:=fun q=>by have:=Q7.mp Ua;rw [gn] at this;exact this.2.2 x hx1 x q rfl
     rw [wC hb hd2 hx2];exact h
    unfold varD at hv ⊢;cases q:Qh.names.lookup x with
    | none=>rw [q] at hv;cases hv
    | some k=>rw [q] at hv;cases k<;>simp only at hv ⊢ <;>first | exact key _ hv | exact hv | cases hv
   have inn:bQ (aC P0 J.w) A (.compLoop (SO elt t it t2 it2 Qh pos) 1 (.ref aha) (.ref Da) Qq) (fun r s5=>∃ f,r= .ok f/\∃ m,m<(d::QD).length+1/\∃ W' Ra QP g',m=Ra.length+1/\iterLoop step Ra QP g'=some (QI,gF,rr)/\CL J W1 s1 Qh cst Qq [I] Da (St Ra) (.lst QP) W' s5/\W'.H=g') s4:=by refine cP (AS ok K2 hA e4 Ri Uw Xg hit TX hl Y2 e5 c5 Sf) fun r s5 z3=>?_;obtain ⟨hr,W5,c6,VU⟩:=z3;subst hr;exact ⟨_,rfl,QD.length+1,by simp,W5,QD,_,_,rfl,Rj,c6.forget (fun x d e=>pP UK e) rfl,VU⟩
   exact JL inn (TX.self A W3 s4 UC _ _ hA.1 WL inn)
  ·obtain ⟨ρ,d2,g1,UC,Sh,g2,x,inner,e1,e2,e3,e4,e5,e6⟩:=hs _ _ _ _ e;cases e6
end
section
variable {J:Cx} {A:bf} {W W1:Wd} {s s1 s2:ah} {sc Qh:aX} {st:St} {env:Env} {ow:List Addr} {I:Addr} {n:Nat}
theorem zR:∀ (h:Heap),(h.push {cls:= .type "dict",data:= .dict #[]}).DictOf (IK J) h.objs.size []:=by iterate 1 exact (⟨_,_,_,ax _ rfl,⟨rfl,rfl,rfl⟩,rfl,fun e he=>by simp at he,.nil,by simp⟩)
theorem Ez:∀ {e:Expr} {QA:Sem ag} {o0:OW} {Rp:ag->Addr->iy->ah->Prop} {St:List D->Wd->Heap->Prop} {ds:List D} (fx:Fx J) (Uc:(QA=newList []/\o0= .lst [])\/(QA=newDict/\o0= .QC [])) (hs:To sc Qh) (ahb:Ql J W1 s1.heap sc st env ow) (RO:Qn J W1 s1) (hit:QO J I St) (Rz:St ds W1 s2.heap) (VA:s1.heap.get? I=none) (tr:Qk J [] W1 s1 W1 s2) (Vd:∀ C Da s4,CK J W1 s1 (rH Qh env C) [I] Da->CL J W1 s1 Qh (st.comp sc Qh) (rH Qh env C) [I] Da (St ds) o0 W1 s4->bQ (aC P0 J.w) A (.compStart e 0 (.ref I) (.ref Da) (rH Qh env C)) (Rp (.ref Da) C) s4),aD (aC P0 J.w) A QA (fun acc QK=>aD (aC P0 J.w) A (newFunctionEnv Qh env.globals (pY env Qh.names []) [] env.qual none .none (some env)) (fun Qq RN=>
   bQ (aC P0 J.w) A (.compStart e 0 (.ref I) acc {Qq with scope:=relabel Qh env}) (Rp acc Qq.locals) RN) (fun _ _=>False) QK) (fun _ _=>False) s2:=by iterate 16
 have main:∀ (ob:Obj),ob.isFreed=false->(∀ h':Heap,(∀ o,(s2.heap.push ob).get? s2.heap.objs.size=some o->h'.get? s2.heap.objs.size=some o)->QN J W1 h' o0 s2.heap.objs.size)->
   aD (aC P0 J.w) A (newFunctionEnv Qh env.globals (pY env Qh.names []) [] env.qual none .none (some env)) (fun Qq RN=>bQ (aC P0 J.w) A (.compStart e 0 (.ref I) (.ref s2.heap.objs.size) {Qq with scope:=relabel Qh env}) (Rp (.ref s2.heap.objs.size) Qq.locals) RN) (fun _ _=>False) {s2 with heap:=s2.heap.push ob}:=by
  intro ob Tp Ri;refine fA (fun y hy=>fun q=>hs.cell y.1 (by rw [<-q];exact hy)) (by intro y hy;simp at hy) (fun h' RZ sb=>?_) hs.kind;have hD2:s2.heap.get? s2.heap.objs.size=none:=bn _;have hC3:(s2.heap.push ob).get? (s2.heap.push ob).objs.size=none:=bn _;have hDC:s2.heap.objs.size≠(s2.heap.push ob).objs.size:=by rw [m3];exact fR (jq _)
  have ZT:s2.heap.get? (s2.heap.push ob).objs.size=none:=by cases q:s2.heap.get? (s2.heap.push ob).objs.size with | none=>rfl | some o=>have:=aF ob q;rw [hC3] at this;cases this
  have Zt:∀ b o,s2.heap.get? b=some o->h'.get? b=some o:=fun b o q=>sb.extBut b o (fun z=>by rw [z,ZT] at q;cases q) (aF _ (aF _ q));have t2:Qk J [] W1 s2 W1 {s2 with heap:=h',toks:=s2.toks+([]:List (Str×ag)).length}:=
   (Qk.grow (X:=[]) (s':={s2 with heap:=h',toks:=s2.toks+([]:List (Str×ag)).length}) tr.ok (fun b o _ q=>Zt b o q) (fun b o q=>⟨o,Zt b o q⟩) (by simp) rfl rfl)
  have nD:=tr.ok.QL hD2;have nC:=tr.ok.QL ZT;have exD:h'.get? s2.heap.objs.size=some ob:=sb.extBut _ _ hDC (aF _ (ax _ Tp));have tr4:=tr.Qi t2;have Y8:∃ o,s2.heap.get? I=some o:=hit.there _ _ _ Rz;have nI:=RO.QL VA;have hDI:I≠s2.heap.objs.size:=fun q=>by obtain ⟨o,e⟩:=Y8;rw [q,hD2] at e;cases e
  have ZS:I≠(s2.heap.push ob).objs.size:=fun q=>by obtain ⟨o,e⟩:=Y8;rw [q,ZT] at e;cases e
  have fr:∀ a∈am env,∃ o,s1.heap.get? a=some o:=fun a ha=>(ahb.apart a (aE _ ha)).2.2.2;have out:∀ a,s1.heap.get? a=none->a∉am env:=fun a ha hm=>by obtain ⟨o,e⟩:=fr a hm;rw [ha] at e;cases e
  have hD1:=tr.Qt hD2;have hC1:=tr.Qt ZT;have Hs:Ql J W1 h' sc st env ow:=ahb.QB tr4;have apC:Apart J W1 h' (s2.heap.push ob).objs.size:=⟨nC.1,nC.2.1,nC.2.2,(by obtain ⟨o,_,_,e,_⟩:=RZ;exact ⟨o,e⟩)⟩
  have er:=HK (s:={s2 with heap:=h'}) (C:=(s2.heap.push ob).objs.size) hs Hs apC (out _ hC1) ⟨_,RZ⟩;have WG:∀ a,a≠(s2.heap.push ob).objs.size->s1.heap.get? a=none->a∉am (rH Qh env (s2.heap.push ob).objs.size):=fun a h1 h2 hm=>by
   rcases Ct hs ahb a hm with q | q
   ·exact h1 q
   ·exact out a h2 q
  refine Vd (s2.heap.push ob).objs.size s2.heap.objs.size _ ?_ ?_
  ·exact {
    RO:=RO
    nI:=by simpa using VA
    nD:=hD1
    nC:=hC1
    ID:=by simpa using hDI
    IC:=by simpa using WG I ZS VA
    DC:=WG _ hDC hD1}
  ·exact {
    tr:=tr4
    er:=er
    it:=hit.keep _ _ _ _ _ Rz (PM.le.refl _) (Pre.refl _) fun o e=>Zt _ _ e
    QT:=fun a ha=>by simp at ha;subst ha;exact ⟨nI.1,nI.2.1,nI.2.2,(by obtain ⟨o,e⟩:=Y8;exact ⟨o,Zt _ _ e⟩)⟩
    RE:=⟨nD.1,nD.2.1,nD.2.2,ob,exD⟩
    acc:=Ri h' fun o e=>by rw [ax _ Tp] at e;cases e;exact exD}
 rcases Uc with ⟨rfl,rfl⟩ | ⟨rfl,rfl⟩
 ·refine dj (main _ rfl fun h' hk=>?_);refine ⟨by simp,#[],⟨_,_,hk _ (ax _ rfl),rfl,rfl,rfl⟩,?_⟩;dsimp only [Qo]
 ·refine dj (main _ rfl fun h' hk=>?_);refine ⟨by simp,?_,[],?_,by dsimp only [RX]⟩
  ·obtain ⟨o,e⟩:=fx.WA;have e:=tr.ok.Qw _ _ e;have:s2.heap.objs.size≠iB:=fun q=>by
    have z:=bn s2.heap;rw [q,e] at z;cases z
   simpa using this
  ·obtain ⟨o,es,ep,e,r⟩:=zR (J:=J) s2.heap;exact ⟨o,es,ep,hk _ e,r⟩
theorem vX:∀ {e it:Expr} {pos:Pos} {QA:Sem ag} {o0:OW} {dI d:D} {ds:List D} {g gI gF:G} {cg:js} {cgs:List js} (fx:Fx J) (ok:Ok J n) (Sl:clausesOf e=cg::cgs) (VD:cg.iter=it) (Uc:(QA=newList []/\o0= .lst [])\/(QA=newDict/\o0= .QC [])) (U9:yg sc Qh=true) (hI:ceE P0 n sc st it g=some (dI,gI)) (hds:itemsOf dI=some ds) (hg:W.H=g) (hw:Qn J W s) (ahb:Ql J W s.heap sc st env ow) (hA:Qs n A) (Vd:∀ W1 s1 C Da I St s4,Qk J [] W s W1 s1->W1.H=gI->QO J I St->CK J W1 s1 (rH Qh env C) [I] Da->CL J W1 s1 Qh (st.comp sc Qh) (rH Qh env C) [I] Da (St ds) o0 W1 s4->
   bQ (aC P0 J.w) A (.compStart e 0 (.ref I) (.ref Da) (rH Qh env C)) (uf J W1 s1 d gF (.ref Da) C) s4),zQ J A W s e Qh env pos QA (eval it env) d gF:=by iterate 26
 intro use Q hQ;have hs:=Fr U9;subst VD;refine wpAny_comprehension_free Sl (vO hI) (zP hs ahb) hs.kind (fun x hx q=>by have:=hs.names x.1 x.2 hx;rw [q] at this;exact this) ?_;refine Ex.into (ok.e hI hg hw ahb hA) fun x W1 s1 k1 z0=>?_;obtain ⟨Q5,rx⟩:=z0;refine af (wj hds rx k1.ok) (fun jt s2 z1=>?_) fun _ _ f=>f;obtain ⟨I,St,hjt,hit,Rz,VA,k2⟩:=z1;subst hjt;refine Ez (Rp:=fun acc C=>compPost (aC P0 J.w) A (fun _ _=>False) use Q acc C) fx Uc hs (ahb.QB k1) k1.ok hit Rz VA k2 fun C Da s4 K c=>?_;refine cP (Vd W1 s1 C Da I St s4 k1 Q5 hit K c) fun r s' h=>?_;have hr:=h.1;subst hr;exact hQ W1 s1 k1 _ _ _ h
theorem sO:∀ {e:Expr} {pos:Pos} {QA first:Sem ag} {d:D} {g:G} (hw:Qn J W s) (h:zQ J A W s e Qh env pos QA first d g),Ex J A (lJ e Qh env pos QA false first) [] W s (li J d g):=by iterate 8 refine h none _ fun W1 s1 k1 acc C s' z2=>?_;obtain ⟨_,W',t,hg,r,ap,hC,m,hn⟩:=z2;refine ⟨m,hn,fun h' sb=>?_⟩;refine ⟨W',?_,hg,r⟩;have:=t.Rw (tk:=s'.toks) k1.ok hC ⟨ap.1,ap.2.1,ap.2.2.1⟩ (fun b o hb q=>(sb.2 b hb).trans q);exact k1.Qi this
end
noncomputable def S2 (J:Cx) (f:Str) (v:ag):Prop:=∃ mg mb,Ud (F0 J) bC mg/\Ud (F0 J) bU mb/\(mg f=some v\/(mg f=none/\mb f=some v))
noncomputable def HV (J:Cx) (h:Heap):Prop:=∀ a o,F0 J a=some o->h.get? a=some o
noncomputable def pN (J:Cx) (f:Str) (fv:ag):Prop:=S2 J f fv/\∀ h,HV J h->∃ k,(k=mZ\/k=mr\/k=lC)/\jI (aC P0 J.w) h (lG fv) k
noncomputable def wo (J:Cx) (n:Nat):Prop:=∀ {f ds g d g'},ceCall P0 n f ds g=some (d,g')->∃ fv,pN J f fv/\∀ {A W s vs},Qs n A->W.H=g->Qo J W.F W.as ds vs->Qn J W s->Ex J A (call fv vs) [] W s (li J d g')
structure Lx (J:Cx) (n:Nat):Prop where
 S9:∀ {m i ds g1 d g2 A W s o apos pos env ov k trees},methD m (.loc i) ds g1=some (d,g2)->Ki m<=n->W.H[i]?.map kindOf=g1[i]?.map kindOf->Rd J W.F W.as (.loc i) ov->Qn J W s->Qs n A->(trees:List (Bool×Sem ag)).any (·.1)=false->(k<30)->(apos.endLine==pos.line)=true->
  Ex J A (eM trees) [] W s (fun vs W' _=>W'.H=g1/\Qo J W'.F W'.as ds vs)->Ex J A (eG o m apos pos env ov k trees []) [] W s (li J d g2)
 attr:∀ {i:Nat} {o:MO} {a:Str} {d:D} {A W s ov},W.H[i]? =some o->xC a o=some d->Rd J W.F W.as (.loc i) ov->Qn J W s->Qs 1 A->Ex J A (mP ov a true) [] W s (li J d W.H)
section
variable {J:Cx} {A:bf} {W W1:Wd} {s s1 s2:ah} {sc Qh:aX} {st:St} {env:Env} {ow:List Addr} {n:Nat} {X:List Addr}
theorem oJ:∀ {x:Str} (h:mt x=true),(x==("__debug__" :Str))=false/\(x==bB "__classdict__")=false:=by iterate 2 unfold mt at h;rw [ai] at h;refine ⟨by simpa using h.1,?_⟩;have:=h.2;simp only [bG] at this;exact this
theorem db:∀ {x:Str} {v:ag} {Q:ag->ah->Prop} {E:ag->ah->Prop} (ahb:RB s.heap env x v) (hk:env.scope.kind= .function) (hx:mt x=true) (h:Q v s),aD (aC P0 J.w) A (loadName env x) Q E s:=by iterate 8
 rcases ahb with ⟨e,m,hn,hm⟩ | ⟨e | e,c,hc,hv⟩
 ·exact wpAny_loadName_local hk e hn hm h
 ·exact wpAny_loadName_cell hk e hc hv h
 ·exact wpAny_loadName_free hk e hc hv h (oJ hx).2
theorem S2.load:∀ {f:Str} {v:ag} {Q:ag->ah->Prop} {E:ag->ah->Prop} (ahb:S2 J f v) (R:Ql J W s.heap sc st env ow) (hw:Qn J W s) (h:Q v s),aD (aC P0 J.w) A (loadGlobal env f) Q E s:=by iterate 8
 obtain ⟨mg,mb,h1,h2,h3 | ⟨h3,h4⟩⟩:=ahb
 ·exact ke (by rw [R.glob];exact h1.ns hw.Qw) h3 h
 ·exact j1 (by rw [R.glob];exact h1.ns hw.Qw) h3 (by rw [R.bi];exact h2.ns hw.Qw) h4 h
theorem Ql.global:∀ {x:Str} (R:Ql J W s.heap sc st env ow) (h:pZ sc x=true),env.kindOf x=some .globalImplicit:=by iterate 3
 have e:sc.names.lookup x=some .globalImplicit:=by
  unfold pZ at h;cases q:sc.names.lookup x with
  | none=>rw [q] at h;cases h
  | some k=>rw [q] at h;cases k<;>first | rfl | cases h
 rcases R.kd _ _ e with q | ⟨q,_⟩
 ·exact q
 ·cases q
theorem DN:∀ {x:Str} {d:D} (fx:Fx J) (e:(if x==("EXACT_TOKEN_TYPES" :Str) then some D.tab else if x==("int" :Str) then some D.Sk else (ua P0 x).map D.int)=some d),∃ v,S2 J x v/\∀ F as,Rd J F as d v:=by iterate 4
 obtain ⟨mg,mb,h1,h2,h3,h4,h5,h6,_⟩:=fx.glob;split at e
 ·rename_i hx;cases e;exact ⟨_,⟨mg,mb,h1,h2,.inl (by rw [eq_of_beq hx];exact h4)⟩,fun F as=>rfl⟩
 ·split at e
  ·rename_i hx;cases e;exact ⟨_,⟨mg,mb,h1,h2,.inr (by rw [eq_of_beq hx];exact ⟨h5,h6⟩)⟩,fun F as=>rfl⟩
  ·obtain ⟨i,hi,rfl⟩:=ba.mp e;obtain ⟨t,ht⟩:=h3 x i hi;exact ⟨_,⟨mg,mb,h1,h2,.inl ht⟩,fun F as=>⟨t,rfl⟩⟩
theorem AY:∀ {x:Str} {d:D} (e:nameD P0 sc st x=some d),(pZ sc x=true/\(if x==("EXACT_TOKEN_TYPES" :Str) then some D.tab else if x==("int" :Str) then some D.Sk else (ua P0 x).map D.int)=some d)\/varD sc st x=some d:=by iterate 3
 unfold nameD at e;unfold pZ varD;cases q:sc.names.lookup x with
 | none=>rw [q] at e;cases e
 | some k=>rw [q] at e;cases k with | globalImplicit=>exact .inl ⟨rfl,e⟩ | globalExplicit=>cases e | _=>exact .inr e
theorem vV:∀ {x:Str} {p:Pos} {d:D} {E:ag->ah->Prop} (fx:Fx J) (e:nameD P0 sc st x=some d) (hx:mt x=true) (hw:Qn J W s) (R:Ql J W s.heap sc st env ow),aD (aC P0 J.w) A (eval (.Name x p) env) (fun v s'=>s'=s/\Rd J W.F W.as d v) E s:=by iterate 9
 rcases AY e with ⟨q,e⟩ | h
 ·obtain ⟨v,hv,hr⟩:=DN fx e;exact bk R.kind (R.global q) (hv.load R hw ⟨rfl,hr _ _⟩) (oJ hx).1
 ·obtain ⟨v,h1,h2⟩:=R.vars x d h;exact bq (db h1 R.kind hx ⟨rfl,h2⟩) (oJ hx).1
theorem Ie:∀ {x:Str} {p:Pos} {d:D} (fx:Fx J) (e:nameD P0 sc st x=some d) (hx:mt x=true) (hw:Qn J W s) (R:Ql J W s.heap sc st env ow),Ex J A (eval (.Name x p) env) X W s (li J d W.H):=by iterate 8 exact (af (vV fx e hx hw R) (fun _ _ h=>⟨W,by rw [h.1];exact Qk.refl hw,rfl,h.2⟩) fun _ _ h=>h)
theorem Dd:∀ {m:Str} {a d:D} {ds:List D} {g g':G} (e:methD m a ds g=some (d,g')) (ha:∀ i,a≠ .loc i),g'=g/\∃ T id,PlainAttrs T/\Slot T m id/\typeOf (.builtin id)=pure (.type "method_descriptor")/\
   (∀ {W s va},Rd J W.F W.as a va->Qn J W s->s.TypeIs va T/\∀ b,va= .ref b->∃ ob,s.heap.get? b=some ob/\ob.dict=none)/\
   ∀ {A W s va vs},Rd J W.F W.as a va->Qo J W.F W.as ds vs->Qn J W s->Ex J A (call (.builtin id) (va::vs)) [] W s (li J d W.H):=by iterate 8
 cases a with
 | str x=>
  have Wy:∀ {W s va},Rd J W.F W.as (.str x) va->Qn J W s->s.TypeIs va "str" /\∀ b,va= .ref b->∃ ob,s.heap.get? b=some ob/\ob.dict=none:=fun h _=>by obtain ⟨_,t,rfl⟩:=h;exact ⟨rfl,fun b q=>by cases q⟩
  replace e:zy m x ds g=_:=e;unfold zy at e;split at e
  ·rename_i hm;cases eq_of_beq hm;replace e:=zW e;obtain ⟨d0,h1,xs,h2,r,h3,d',h4,e⟩:=e;cases e;cases oS h1;cases ph h2;exact ⟨rfl,"str","str.join",gv,PySem.F.slot_str_join,PySem.F.type_str_join,Wy,fun UB Vu hw=>EH h3 h4 UB Vu hw⟩
  ·split at e
   ·rename_i hm;cases eq_of_beq hm;replace e:=qI e;obtain ⟨_,h1,d',h2,e⟩:=e;cases e;cases oU h1;exact ⟨rfl,"str","str.split",gv,jV,PySem.F.type_str_split,Wy,fun UB Vu hw=>by rw [sI Vu];exact BN h2 UB hw⟩
   ·split at e
    ·rename_i hm;cases eq_of_beq hm;replace e:=vq e;obtain ⟨d0,h1,xs,h2,c,h3,e⟩:=e;cases e;cases oS h1;cases oK h2;cases oS h3;exact ⟨rfl,"str","str.count",gv,PySem.F.slot_str_count,PySem.F.type_str_count,Wy,fun UB Vu hw=>Cq UB Vu hw⟩
    ·cases e
 | lst x=>
  replace e:(if m==("count" :Str) then _ else _)=_:=e;split at e
  ·rename_i hm;cases eq_of_beq hm;replace e:=vq e;obtain ⟨d0,h1,i,h2,l,h3,e⟩:=e;cases e;cases oS h1;cases be h2;refine ⟨rfl,"list","list.count",cI,PySem.F.slot_list_count,PySem.F.type_list_count,fun h hw=>?_,fun UB Vu hw=>AX h3 UB Vu hw⟩;obtain ⟨hl,a1,ws,n1,s1,rfl,e1,r1⟩:=io h;exact ⟨⟨_,hw.sub _ _ e1,rfl⟩,fun b q=>by cases q;exact ⟨_,hw.sub _ _ e1,rfl⟩⟩
  ·cases e
 | QC x=>
  replace e:(if m==("get" :Str) then _ else _)=_:=e;split at e
  ·rename_i hm;cases eq_of_beq hm;replace e:=vq e;obtain ⟨⟨d0,d1⟩,h1,i,h2,l,h3,e⟩:=e;cases e;cases rm h1;cases be h2;cases be h3;refine ⟨rfl,"dict","dict.get",jJ,eI,j8,fun h hw=>?_,fun UB Vu hw=>GK UB Vu hw⟩;obtain ⟨hl,a,rfl,hn,p⟩:=h;obtain ⟨ws,hm,q⟩:=TK.dictOf p hw.sub;exact ⟨fu hm.mapOf,fun b q=>kp hm.mapOf b q⟩
  ·cases e
 | int x=>
  replace e:(if m==("bit_length" :Str) then _ else _)=_:=e;split at e
  ·rename_i hm;cases eq_of_beq hm;replace e:=bi e;obtain ⟨_,h1,e⟩:=e;cases e;cases oU h1;refine ⟨rfl,"int","int.bit_length",PySem.F.plainAttrs_int,PySem.F.slot_int_bit_length,PySem.F.type_int_bit_length,fun h hw=>?_,fun UB Vu hw=>by rw [sI Vu];exact EE UB hw⟩;obtain ⟨t,rfl⟩:=h;exact ⟨rfl,fun b q=>by cases q⟩
  ·cases e
 | loc i=>exact absurd rfl (ha _)
 | _=>cases e
theorem pz:∀ {f:ag} {trees:List (Bool×Sem ag)} {Q:Args->ah->Prop} {E:ag->ah->Prop} (hp:trees.any (·.1)=false) (h:aD (aC P0 J.w) A (eM trees) (fun vs s'=>Q ⟨vs,[]⟩ s') E s),aD (aC P0 J.w) A (evalArgs f true trees []) Q E s:=by iterate 6
 cases trees with
 | nil=>unfold evalArgs;show aD _ A (eM [] >>=_) _ _ s;refine ae (af h (fun vs s' h'=>?_) fun _ _ x=>x);refine bu ?_;exact ae (ay (ae (ay (ay h'))))
 | cons p r=>
  obtain ⟨b,x⟩:=p;have:b=false:=by simp at hp;exact hp.1
  subst this;exact Calls.evalArgs_plain h
theorem pa:∀ {fv:ag} {f:Str} {pos:Pos} {trees:List (Bool×Sem ag)} {first:List ag} {Q:ag->ah->Prop} {E:ag->ah->Prop} (c:pN J f fv) (hp:trees.any (·.1)=false) (h:aD (aC P0 J.w) A (eM trees) (fun vs s'=>HV J s'.heap/\aD (aC P0 J.w) A (call fv (first++vs)) Q E s') E s),aD (aC P0 J.w) A (callWith pos fv first trees []) Q E s:=by iterate 10 exact (c9 (by simp [hp]) c.2 (pz hp h))
theorem ii:∀ {id:String} {pos:Pos} {trees:List (Bool×Sem ag)} {first:List ag} {Q:ag->ah->Prop} {E:ag->ah->Prop} (hp:trees.any (·.1)=false) (h:aD (aC P0 J.w) A (eM trees) (fun vs s'=>aD (aC P0 J.w) A (call (.builtin id) (first++vs)) Q E s') E s),aD (aC P0 J.w) A (callWith pos (.builtin id) first trees []) Q E s:=by iterate 8 exact (Calls.callWith_builtin hp (pz hp h))
theorem wO:∀ {sc:aX} {st:St} {e:Expr} {p:Pos} {g:G} {r:D×G},ceE P0 n sc st (.Starred e p) g≠some r:=by iterate 6 intro h;cases n<;>cases h
theorem pC:∀ {sc:aX} {st:St} {e:Expr} {es:List Expr} {g:G} {r:D×G} (h:ceE P0 n sc st e g=some r),eL (e::es) env=(false,eval e env)::eL es env:=by iterate 7 cases e<;>first | rfl | exact absurd h wO
theorem uU:∀ {sc:aX} {st:St} {pos:Pos},∀ {n:Nat} {es:List Expr} {g:G} {r:List D×G},ceEs P0 n sc st es g=some r->(kC pos (eL es env)).any (·.1)=false:=by iterate 3
 intro n;induction n with
 | zero=>intro es g r h;cases h
 | succ n ih=>intro es g r h;cases es with | nil=>rfl | cons e es=>obtain ⟨a,h1,b,h2,h3⟩:=qI h;rw [pC h1];show (false ||(kC pos (eL es env)).any (·.1))=false;rw [ih h2];rfl
theorem qw:∀ {l:List (Bool×Sem ag)} (h:l.any (·.1)=false),(l.all fun x=>!x.1)=true:=by iterate 2 rw [ak];intro p hp;rw [lX] at h;simpa using h p hp
theorem Qn.Ut:∀ (fx:Fx J) (hw:Qn J W s),yc J s.heap:=by iterate 2 exact (fx.Ut _ hw.Qw)
theorem tS:∀ {value slice:Expr} {a:D} {va:ag} {i:ag} {Q:ag->ah->Prop} {E:ag->ah->Prop} (ha:(∃ x,a= .lst x)\/∃ x,a= .str x) (r:Rd J W.F W.as a va) (hw:Qn J W s) (h:aD (aC P0 J.w) A (mO va i) Q E s),aD (aC P0 J.w) A (jh value slice va i) Q E s:=by iterate 11
 rcases ha with ⟨x,rfl⟩ | ⟨x,rfl⟩
 ·obtain ⟨hl,a1,ws,n1,s1,rfl,e1,r1⟩:=io r;obtain ⟨ops,ho⟩:=jp slice (.ref a1) i;exact hO (T:="list") ⟨_,hw.sub _ _ e1,rfl⟩ dR.lookup h ho
 ·obtain ⟨_,t,rfl⟩:=r;obtain ⟨ops,ho⟩:=jp slice (.str ⟨x.toArray⟩ t) i;exact hO (T:="str") rfl jy.lookup h ho
theorem Ch:∀ {value slice:Expr} {a d:D} {l h:Option Int} {va:ag} {i:ag} {Q:ag->ah->Prop} {E:ag->ah->Prop} (e:xc W.H a l h=some d) (r:Rd J W.F W.as a va) (hw:Qn J W s) (hq:aD (aC P0 J.w) A (mO va i) Q E s),aD (aC P0 J.w) A (jh value slice va i) Q E s:=by iterate 14 cases a with | lst x=>exact tS (.inl ⟨_,rfl⟩) r hw hq | str x=>exact tS (.inr ⟨_,rfl⟩) r hw hq | loc j=>replace e:=qI e;obtain ⟨o,hj,cs,h1,e⟩:=e;cases sC h1;obtain ⟨a,fp,rfl,Vq,Uo,hc,rfl,ss,⟨o,n,e1,e2,e3,e4⟩,Tv⟩:=sP hw hj r;obtain ⟨ops,ho⟩:=jp slice (.ref a) i;exact hO (T:="list") ⟨_,e1,e2⟩ dR.lookup hq ho | _=>cases e
theorem Eu:∀ {a d:D} (e:Jv a=some d),(∃ x,a= .lst x)\/∃ x,a= .str x:=by iterate 3 obtain ⟨x,h,_⟩:=bi e;exact .inl ⟨x,ph h⟩
theorem Qs.units:∀ {k:Nat} (h:Qs k A),A.units+400<mj:=by iterate 2 have:=h.2.2;omega
theorem pR:∀ {x:Str} {xp:Pos} {name:Str},attributeBase (.Name x xp) name env (eval (.Name x xp) env)=eval (.Name x xp) env:=by iterate 3 exact (rfl)
theorem yD:∀ {op:CmpOp} {r:Expr} {g:G} {q:D×G} (h:ceE P0 n sc st r g=some q),behindInMarks op r=false:=by iterate 5 cases r<;>first | rfl | exact absurd h wy
theorem ub:∀ (fx:Fx J) (ok:Ok J n),∀ {sc st e g d g' env ow A W s Qh pos QA first},ceE P0 (n+1) sc st e g=some (d,g')->W.H=g->Qn J W s->Ql J W s.heap sc st env ow->Qs (n+1) A->vY env e=some (Qh,pos,QA,first)->zQ J A W s e Qh env pos QA first d g':=by iterate 2
 intro sc st e g d g' env ow A W s Xw ad4 Zr abP h hg hw R QY hp;have hA:Qs n A:=QY.le (bV n);replace h:Ay P0 (fs P0 n) sc st n g (ev e)=some (d,g'):=h;generalize ev e=v at h;cases v with
 | lc elt t it ifs Qh pos=>
  replace h:=OD h;obtain ⟨u,h1,⟨dI,gI⟩,h2,ds,h3,⟨QI,gF,rr⟩,h4,d',h5,h6⟩:=h;cases h6;cases hp;have h1:=bx.mp (dl h1);obtain ⟨hl,rfl⟩:=tF h5;refine (vX (pos:=it.pos) fx ok (e:= .ListComp elt [⟨t,it,ifs,0⟩] Xw pos) (cg:=⟨t,it,ifs,0⟩) (cgs:=[]) (o0:= .lst []) rfl rfl (.inl ⟨rfl,rfl⟩) h1.1 h2 h3 hg hw R hA fun W1 s1 C Da I St s4 k1 Q5 hit K c=>?_);have loop:=Cf (it:=it) (pos:=pos) ok K hA (t:=t) (ifs:=ifs) (elt:=elt) (fun d acc g r e=>by
   obtain ⟨ρ,e1,⟨b,g1⟩,e2,e3⟩:=qI e;refine ⟨ρ,b,g1,e1,e2,?_⟩;split at e3
   ·rename_i hb;obtain ⟨⟨x,g2⟩,e4,e5⟩:=bi e3;cases e5;exact .inl ⟨hb,x,g2,e4,rfl⟩
   ·rename_i hb;cases e3;exact .inr ⟨l5.mpr hb,rfl⟩) rfl rfl h1.2 hit hl h4 c Q5
  exact lS loop (hit.self A W1 s4 ds _ _ hA.1 c.it loop)
 | SO elt t it t2 it2 Qh pos=>replace h:=OD h;obtain ⟨u,h1,⟨dI,gI⟩,h2,ds,h3,⟨QI,gF,rr⟩,h4,d',h5,h6⟩:=h;cases h6;cases hp;have h1:=dl h1;simp only [ai] at h1;obtain ⟨⟨⟨c1,c2⟩,c3⟩,c4⟩:=h1;obtain ⟨hl,rfl⟩:=tF h5;refine (vX (pos:=it.pos) fx ok (e:=SO elt t it t2 it2 Xw pos) (cg:=⟨t,it,[],0⟩) (cgs:=[⟨t2,it2,[],0⟩]) (o0:= .lst []) rfl rfl (.inl ⟨rfl,rfl⟩) c1 h2 h3 hg hw R hA fun W1 s1 C Da I St s4 k1 Q5 hit K c=>?_);have loop:=Cr (it:=it) (pos:=pos) ok K hA (t:=t) (t2:=t2) (it2:=it2) (elt:=elt) (fun d acc g r e=>by obtain ⟨ρ,e1,⟨d2,g1⟩,e2,UC,e3,⟨Sh,g2,x⟩,e4,e5⟩:=zW e;cases e5;refine ⟨ρ,d2,g1,UC,Sh,g2,x,_,e1,e2,e3,?_,e4,rfl⟩;intro d2 acc g r e;obtain ⟨Z5,e1,⟨y,g3⟩,e2,e3⟩:=qI e;cases e3;exact ⟨Z5,y,g3,e1,e2,rfl⟩) rfl rfl c2 c3 c4 hit hl h4 c Q5;exact lS loop (hit.self A W1 s4 ds _ _ hA.1 c.it loop)
 | dc kx vx t it ifs Qh pos=>
  replace h:=OD h;obtain ⟨u,h1,⟨dI,gI⟩,h2,ds,h3,⟨QI,gF,rr⟩,h4,u',h5,h6⟩:=h;cases h6;cases hp;have h1:=bx.mp (dl h1);have hl:=of_decide_eq_true (dl h5);refine (vX (pos:=it.pos) fx ok (e:= .DictComp kx vx [⟨t,it,ifs,0⟩] Xw pos) (cg:=⟨t,it,ifs,0⟩) (cgs:=[]) (o0:= .QC []) rfl rfl (.inr ⟨rfl,rfl⟩) h1.1 h2 h3 hg hw R hA fun W1 s1 C Da I St s4 k1 Q5 hit K c=>?_);have loop:=BR (it:=it) (pos:=pos) ok K hA (t:=t) (ifs:=ifs) (kx:=kx) (vx:=vx) (fun d acc g r e=>by
   obtain ⟨ρ,e1,⟨b,g1⟩,e2,e3⟩:=qI e;refine ⟨ρ,b,g1,e1,e2,?_⟩;split at e3
   ·rename_i hb;obtain ⟨⟨x,g2⟩,e4,⟨y,g3⟩,e5,i,e6,j,e7,e8⟩:=zW e3;cases e8;cases be e6;cases be e7;exact .inl ⟨hb,i,g2,j,g3,e4,e5,rfl⟩
   ·rename_i hb;cases e3;exact .inr ⟨l5.mpr hb,rfl⟩) rfl rfl h1.2 hit hl h4 c Q5
  exact codeAny_compStart_dict loop (hit.self A W1 s4 ds _ _ hA.1 c.it loop)
 | other e=>cases h
 | _=>cases hp
theorem L5:∀ (fx:Fx J) (lx:Lx J n) (ok:Ok J n) (call:wo J n),∀ {sc st e g d g' env ow A W s},ceE P0 (n+1) sc st e g=some (d,g')->W.H=g->Qn J W s->Ql J W s.heap sc st env ow->Qs (n+1) A->Ex J A (eval e env) [] W s (li J d g'):=by iterate 4
 intro sc st e g d g' env ow A W s h hg hw R QY;have hA:Qs n A:=QY.le (bV n);have h0:=h;replace h:Ay P0 (fs P0 n) sc st n g (ev e)=some (d,g'):=h;generalize ev e=v at h;cases v with
 | const c k pos=>replace h:=bi h;obtain ⟨a,h1,h2⟩:=h;cases h2;subst hg;cases c with | none=>cases h1;exact mK ⟨W,Qk.refl hw,rfl,rfl⟩ | bool b=>cases h1;exact gc ⟨W,Qk.refl hw,rfl,rfl⟩ | int i=>cases h1;exact bO (nw hw) | str x=>obtain ⟨hl,rfl⟩:=vH h1;refine cK ?_;have z:=uk (t:=s.toks) (tk:=s.toks+1) (X:=[]) hw hl;rw [ig] at z;exact z | _=>cases h1
 | name x pos=>replace h:=qI h;obtain ⟨u,h1,d',h2,h3⟩:=h;cases h3;subst hg;exact Ie fx h2 (dl h1) hw R
 | bin l op r pos=>replace h:=vq h;obtain ⟨⟨a,g1⟩,h1,⟨b,g2⟩,h2,d',h3,h4⟩:=h;cases h4;refine hH (Ex.into (ok.e h1 hg hw R hA) fun va W1 s1 k1 p1=>Ex.into (ok.e h2 p1.1 k1.ok (R.QB k1) hA) fun vb W2 s2 k2 p2=>?_);exact Ex.into (xW (X:=[]) h3 (p1.2.mono k2.le k2.as) p2.2 k2.ok) fun v W3 s3 k3 p3=>⟨W3,(k1.Qi k2).Qi k3,p3.1.trans p2.1,p3.2⟩
 | un op x pos=>replace h:=qI h;obtain ⟨⟨a,g1⟩,h1,d',h3,h4⟩:=h;cases h4;refine wpAny_UnaryOp (Ex.into (ok.e h1 hg hw R hA) fun va W1 s1 k1 p1=>?_);exact Ex.into (Il (X:=[]) h3 p1.2 k1.ok) fun v W3 s3 k3 p3=>⟨W3,k1.Qi k3,p3.1.trans p1.1,p3.2⟩
 | ifx t b o pos=>
  replace h:=bi h;obtain ⟨⟨c,g1⟩,h1,h2⟩:=h;refine wpAny_IfExp (Ex.into (ok.t h1 hg hw R hA) fun b W1 s1 k1 p1=>?_);cases p1.1;split at h2
  ·rename_i hb;rw [if_pos hb];exact Ex.into (ok.e h2 p1.2 k1.ok (R.QB k1) hA) fun v W2 s2 k2 r=>⟨W2,k1.Qi k2,r⟩
  ·rename_i hb;rw [if_neg hb];exact Ex.into (ok.e h2 p1.2 k1.ok (R.QB k1) hA) fun v W2 s2 k2 r=>⟨W2,k1.Qi k2,r⟩
 | RQ vs pos=>rw [arm_eval_BoolOp];exact ok.RQ h hg hw R hA
 | cmp l op r pos=>replace h:=vq h;obtain ⟨⟨a,g1⟩,h1,⟨b,g2⟩,h2,c,h3,h4⟩:=h;cases h4;refine wpAny_Compare1 (Ex.into (ok.e h1 hg hw R hA) fun va W1 s1 k1 p1=>Ex.into (ok.e h2 p1.1 k1.ok (R.QB k1) hA) fun vb W2 s2 k2 p2=>?_) (yD h2);exact Ex.into (GR (X:=[]) hA.units h3 (p1.2.mono k2.le k2.as) p2.2 k2.ok (k2.ok.Ut fx)) fun v W3 s3 k3 p3=>⟨W3,(k1.Qi k2).Qi k3,p3.1.trans p2.1,p3.2⟩
 | tup es k pos=>
  replace h:=qI h;obtain ⟨⟨ds,g1⟩,h1,u,h2,h3⟩:=h;cases h3;have hl:=of_decide_eq_true (dl h2);refine wpAny_Tuple (Ex.into (ok.es h1 hg hw R hA).2.2 fun vs W1 s1 k1 p1=>⟨?_,?_⟩)
  ·rw [p1.2.length];exact bw hl pe
  ·obtain ⟨W2,k2,RW,r2⟩:=CP (X:=[]) (tk:=s1.toks) k1.ok p1.2 hl rfl;exact ⟨W2,k1.Qi k2,RW.trans p1.1,r2⟩
 | lst es pos=>
  replace h:=qI h;obtain ⟨⟨ds,g1⟩,h1,d',h2,h3⟩:=h;cases h3;obtain ⟨hl,rfl⟩:=tF h2;refine gU (Ex.into (ok.es h1 hg hw R hA).2.2 fun vs W1 s1 k1 p1=>⟨?_,?_⟩)
  ·rw [p1.2.length];exact bw hl pe
  ·obtain ⟨W2,k2,RW,r2⟩:=sw (X:=[]) (tk:=s1.toks) k1.ok p1.2 hl rfl;exact ⟨W2,k1.Qi k2,RW.trans p1.1,r2⟩
 | slice v lo hi p1 p2=>
  replace h:=zW h;obtain ⟨⟨a,g1⟩,h1,⟨l,g2⟩,h2,⟨hh,g3⟩,h3,d',h4,h5⟩:=h;cases h5;refine jH (Ex.into (ok.e h1 hg hw R hA) fun va W1 s1 k1 p1=>?_);refine wpAny_Slice (Ex.into (ok.opt h2 p1.1 k1.ok (R.QB k1) hA) fun vl W2 s2 k2 p2=>?_);refine Ex.into (ok.opt h3 p2.1 k2.ok ((R.QB k1).QB k2) hA) fun vh W3 s3 k3 p3=>?_;refine gz ?_;have k4:=Qk.push (X:=[]) (tk:=s3.toks) k3.ok {cls:= .type "slice",data:= .fields #[vl,vh,.none]};have ra4:=((p1.2.mono k2.le k2.as).mono k3.le k3.as)
  cases p3.1;refine Ch h4 ra4 k4.ok ?_;exact Ex.into (Es (X:=[]) h4 ra4 p2.2 p3.2 k4.ok ⟨_,ax _ rfl,rfl,rfl⟩) fun v W5 s5 k5 p5=>⟨W5,(((k1.Qi k2).Qi k3).Qi k4).Qi k5,p5.1,p5.2⟩
 | rev v k p1 p2 p3 p4=>replace h:=qI h;obtain ⟨⟨a,g1⟩,h1,d',h4,h5⟩:=h;cases h5;refine jH (Ex.into (ok.e h1 hg hw R hA) fun va W1 s1 k1 p1=>?_);refine wpAny_Slice (gz (gz (m6 (wpAny_UnaryOp (bO ?_)))));refine jo ?_;have k4:=Qk.push (X:=[]) (tk:=s1.toks+1+1) k1.ok {cls:= .type "slice",data:= .fields #[.none,.none,.int (-1) (s1.toks+1)]};refine tS (Eu h4) p1.2 k4.ok ?_;exact Ex.into (IT (X:=[]) h4 p1.2 k4.ok ⟨_,ax _ rfl,rfl,rfl⟩) fun v W5 s5 k5 p5=>⟨W5,(k1.Qi k4).Qi k5,p5.1.trans p1.1,p5.2⟩
 | sub v i pos=>replace h:=vq h;obtain ⟨⟨a,g1⟩,h1,⟨k,g2⟩,h2,d',h3,h4⟩:=h;cases h4;refine jH (Ex.into (ok.e h1 hg hw R hA) fun va W1 s1 k1 p1=>Ex.into (ok.e h2 p1.1 k1.ok (R.QB k1) hA) fun vk W2 s2 k2 p2=>?_);exact Ex.into (IQ (X:=[]) h3 (p1.2.mono k2.le k2.as) p2.2 k2.ok (k2.ok.Ut fx)) fun v W3 s3 k3 p3=>⟨W3,(k1.Qi k2).Qi k3,p3.1.trans p2.1,p3.2⟩
 | lc elt t it ifs Qh pos=>rw [eval_ListComp];exact sO (pos:=it.pos) hw (ub fx ok h0 hg hw R QY rfl)
 | SO elt t it t2 it2 Qh pos=>rw [eval_ListComp];exact sO (pos:=it.pos) hw (ub fx ok h0 hg hw R QY rfl)
 | dc kx vx t it ifs Qh pos=>rw [arm_eval_DictComp];exact sO (pos:=it.pos) hw (ub fx ok h0 hg hw R QY rfl)
 | attr x xp a pos=>replace h:=zW h;obtain ⟨⟨d1,g1⟩,h2,l,h3,o,h4,ln,h5,h6⟩:=h;cases h6;rw [jk,pR];refine ae (Ex.into (ok.e h2 hg hw R hA) fun va W1 s1 k1 p1=>ae (bt (ae (bu ?_))));cases (show d1=_ from sS h3);cases p1.1;exact Ex.into (lx.attr h4 h5 p1.2 k1.ok (QY.le (by omega))) fun v W2 s2 k2 r2=>ae (ay (ay ⟨W2,k1.Qi k2,r2⟩))
 | call f fp as pos=>replace h:=qI h;obtain ⟨u,h1,⟨ds,g1⟩,h2,h3⟩:=h;have h1:=bx.mp (dl h1);obtain ⟨fv,cf,hc⟩:=call h3;have es:=ok.es (pos:=pos) h2 hg hw R hA;refine bH (bk R.kind (R.global h1.1) (cf.1.load R hw ?_) (oJ h1.2).1);refine pa (first:=[]) cf es.1 (Ex.into es.2.2 fun vs W1 s1 k1 p1=>⟨k1.ok.Qw,?_⟩);exact Ex.into (hc hA p1.1 p1.2 k1.ok) fun v W2 s2 k2 r2=>⟨W2,k1.Qi k2,r2⟩
 | S9 x xp m ap as cp=>
  replace h:(match tJ st x with | some Qx=>_ | none=>_)=some (d,g'):=h;cases ho:tJ st x with
  | some Qx=>
   rw [ho] at h;replace h:=vq h;obtain ⟨u,h1,⟨ds,g1⟩,h2,d',h3,h4⟩:=h;cases h4;have h1:=dl h1;simp only [ai] at h1;obtain ⟨⟨⟨c1,c2⟩,c3⟩,c4⟩:=h1;cases eq_of_beq c1;have Ri:=ww ho;have es:=ok.es (pos:=cp) h2 hg hw R hA;obtain ⟨_,a,aaT,S1,hv,S0⟩:=R.own _ _ Ri;refine cA pR ?_ c2 rfl (bq (db hv R.kind c4 ?_) (oJ c4).1)
   ·simp only [ai];exact ⟨⟨qw es.1,rfl⟩,c3⟩
   ·obtain ⟨hl,U8,ws,Wr,hdk⟩:=S0;refine ⟨"dict","dict.get",jJ,eI,j8,fu Wr.mapOf,fun b q=>kp Wr.mapOf b q,?_⟩;refine ii es.1 (Ex.into es.2.2 fun vs W1 s1 k1 p1=>?_);obtain ⟨_,a',Yi,_,_,WW⟩:=(R.QB k1).own _ _ Ri;cases aaT.symm.trans Yi;obtain ⟨_,_,ws1,Vl,abj⟩:=WW;replace h3:=vq h3;obtain ⟨⟨d0,d1⟩,q0,k,q1,dd,q2,h3⟩:=h3;cases h3;cases be q1;cases be q2;cases (show ds=_ from rm q0);obtain ⟨v,u,rfl,⟨t1,rfl⟩,t2,rfl⟩:=uH p1.2;have q:=rT abj k;refine call_meetsIn eI (fu Vl.mapOf) jW (jK _ _ _) (lR (IK J) (k:=k) (key:= .int k t1) a (decide_eq_true rfl) U8 _) ⟨_,Vl.mapOf,?_⟩;have fin:∀ (i:Int) (t:Tok),∃ W',Qk J [] W s W' {s1 with toks:=s1.toks+1}/\li J (.int i) W1.H (.int i t) W' {s1 with toks:=s1.toks+1}:=fun i t=>by
     obtain ⟨W2,k2,r2⟩:=nw (X:=[]) (i:=i) (t:=t) (tk:=s1.toks+1) k1.ok;exact ⟨W2,k1.Qi k2,r2⟩
    rw [show g1=W1.H from p1.1.symm];cases e:Qx.lookup k with | none=>rw [q.2 e];exact fin _ _ | some i=>obtain ⟨t3,e3⟩:=q.1 i e;rw [e3];exact fin _ _
  | none=>
   rw [ho] at h;replace h:=zW h;obtain ⟨u,h1,⟨a,g1⟩,h2,⟨ds,g2⟩,h3,u',h5,h4⟩:=h;have h1:=dl h1;simp only [ai] at h1;obtain ⟨⟨c2,c3⟩,clv⟩:=h1;by_cases Td:∃ i,a= .loc i
   ·obtain ⟨i,rfl⟩:=Td;rw [jj,pR];refine ae (Ex.into (ok.e h2 hg hw R hA) fun va W1 s1 k1 p1=>ae (bt ?_));have es:=ok.es (pos:=cp) h3 p1.1 k1.ok (R.QB k1) hA;cases p1.1;exact Ex.into (lx.S9 h4 (of_decide_eq_true clv) (eq_of_beq (dl h5)) p1.2 k1.ok (QY.le (by omega)) es.1 (of_decide_eq_true c3) c2 es.2.2) fun v W2 s2 k2 r2=>⟨W2,k1.Qi k2,r2⟩
   ·obtain ⟨hgg,T,id,f1,f2,f3,f4,f5⟩:=Dd h4 fun i q=>Td ⟨i,q⟩;refine cA pR ?_ c2 rfl (Ex.into (ok.e h2 hg hw R hA) fun va W1 s1 k1 p1=>?_)
    ·simp only [ai];exact ⟨⟨qw (uU h3),rfl⟩,c3⟩
    ·have es:=ok.es (pos:=cp) h3 p1.1 k1.ok (R.QB k1) hA;refine ⟨T,id,f1,f2,f3,(f4 p1.2 k1.ok).1,(f4 p1.2 k1.ok).2,?_⟩;refine ii es.1 (Ex.into es.2.2 fun vs W2 s2 k2 p2=>?_);exact Ex.into (f5 (p1.2.mono k2.le k2.as) p2.2 k2.ok) fun v W3 s3 k3 r3=>⟨W3,(k1.Qi k2).Qi k3,(r3.1.trans p2.1).trans hgg.symm,r3.2⟩
 | Wa x k p1 m ap as cp=>
  replace h:=qI h;obtain ⟨u,h1,⟨ds,g1⟩,h2,h3⟩:=h;have h1:=dl h1;simp only [ai] at h1;obtain ⟨⟨c2,c3⟩,c4⟩:=h1;obtain ⟨hgg,T,id,f1,f2,f3,f4,f5⟩:=Dd h3 fun i q=>by cases q
  refine cA rfl ?_ c2 rfl (cK ?_)
  ·simp only [ai];exact ⟨⟨qw (uU h2),rfl⟩,c3⟩
  ·have k1:=Qk.toks (X:=[]) (tk:=s.toks+1) hw;have ra:Rd J W.F W.as (.str x.cps.toList) (.str x s.toks):=⟨of_decide_eq_true c4,s.toks,by rw [ig]⟩
   have es:=ok.es (pos:=cp) h2 hg k1.ok (R.QB k1) hA;refine ⟨T,id,f1,f2,f3,(f4 ra k1.ok).1,(f4 ra k1.ok).2,?_⟩;refine ii es.1 (Ex.into es.2.2 fun vs W2 s2 k2 p2=>?_);exact Ex.into (f5 (ra.mono k2.le k2.as) p2.2 k2.ok) fun v W3 s3 k3 r3=>⟨W3,(k1.Qi k2).Qi k3,(r3.1.trans p2.1).trans hgg.symm,r3.2⟩
 | other e=>cases h
theorem yT:∀ {d:D} {b:Bool} {v:ag} {Q:Bool->ah->Prop} {E:ag->ah->Prop} (h:sM d=some b) (r:Rd J W.F W.as d v) (q:Q b s),aD (aC P0 J.w) A (truthy v) Q E s:=by iterate 8 cases pL h;cases r;exact eU q
theorem zV:∀ {e:Expr} (h:BU e=true),jT e env (eval e env)=(do let v <-eval e env;ky e.pos;lH [v] (truthy v)):=by iterate 2
 cases e with
 | UnaryOp op x p=>cases op<;>first | rfl | cases h
 | BoolOp=>cases h
 | IfExp=>cases h
 | Compare=>cases h
 | _=>rfl
theorem Mj:∀ (fx:Fx J) (ok:Ok J n),∀ {sc st e g b g' env ow A W s},ceT P0 (n+1) sc st e g=some (b,g')->W.H=g->Qn J W s->Ql J W s.heap sc st env ow->Qs (n+1) A->Ex J A (jT e env (eval e env)) [] W s (fun c W' _=>c=b/\W'.H=g'):=by iterate 2
 intro sc st e g b g' env ow A W s h hg hw R QY;have hA:Qs n A:=QY.le (bV n);replace h:KB P0 (fs P0 n) sc st g (tv e)=some (b,g'):=h;generalize tv e=v at h;cases v with
 | not x p=>replace h:=bi h;obtain ⟨⟨c,g1⟩,h1,h2⟩:=h;cases h2;exact wpAny_isTrue_Not (Ex.into (ok.t h1 hg hw R hA) fun c W1 s1 k1 p1=>⟨W1,k1,congrArg _ p1.1,p1.2⟩)
 | UJ vs p=>exact mJ (ok.UJ h hg hw R hA)
 | RQ vs p=>exact mJ (ok.Ti h hg hw R hA)
 | cmp l op r p=>replace h:=vq h;obtain ⟨⟨a,g1⟩,h1,⟨b',g2⟩,h2,c,h3,h4⟩:=h;cases h4;refine ma (Ex.into (ok.e h1 hg hw R hA) fun va W1 s1 k1 p1=>Ex.into (ok.e h2 p1.1 k1.ok (R.QB k1) hA) fun vb W2 s2 k2 p2=>?_) (yD h2);refine Ex.into (GR (X:=[]) hA.units h3 (p1.2.mono k2.le k2.as) p2.2 k2.ok (k2.ok.Ut fx)) fun v W3 s3 k3 p3=>?_;cases (show v=_ from p3.2);exact eU ⟨W3,(k1.Qi k2).Qi k3,rfl,p3.1.trans p2.1⟩
 | plain e hp=>replace h:=qI h;obtain ⟨⟨d,g1⟩,h1,c,h2,h3⟩:=h;cases h3;exact dP (Ex.into (ok.e h1 hg hw R hA) fun v W1 s1 k1 p1=>yT h2 p1.2 ⟨W1,k1,rfl,p1.1⟩) (zV hp)
 | other e=>cases h
theorem IW:∀ (ok:Ok J n),∀ {sc st es g b g' env ow A W s},ceOr P0 (n+1) sc st es g=some (b,g')->W.H=g->Qn J W s->Ql J W s.heap sc st env ow->Qs (n+1) A->Ex J A (allTrue .Or es env) [] W s (fun c W' _=>c=b/\W'.H=g'):=by iterate 1
 intro sc st es g b g' env ow A W s h hg hw R QY;have hA:Qs n A:=QY.le (bV n);cases es with
 | nil=>cases h;exact wpAny_allTrue_Or_nil ⟨W,Qk.refl hw,rfl,hg⟩
 | cons e r=>
  replace h:=bi h;obtain ⟨⟨c,g1⟩,h1,h2⟩:=h;refine wpAny_allTrue_Or_cons (Ex.into (ok.t h1 hg hw R hA) fun c' W1 s1 k1 p1=>?_);cases p1.1;split at h2
  ·rename_i hb;rw [if_pos hb];cases h2;exact ⟨W1,k1,rfl,p1.2⟩
  ·rename_i hb;rw [if_neg hb];exact Ex.into (ok.UJ h2 p1.2 k1.ok (R.QB k1) hA) fun c2 W2 s2 k2 r2=>⟨W2,k1.Qi k2,r2⟩
theorem D0:∀ (ok:Ok J n),∀ {sc st es g b g' env ow A W s},ceAndT P0 (n+1) sc st es g=some (b,g')->W.H=g->Qn J W s->Ql J W s.heap sc st env ow->Qs (n+1) A->Ex J A (allTrue .And es env) [] W s (fun c W' _=>c=b/\W'.H=g'):=by iterate 1
 intro sc st es g b g' env ow A W s h hg hw R QY;have hA:Qs n A:=QY.le (bV n);cases es with
 | nil=>cases h;exact wpAny_allTrue_And_nil ⟨W,Qk.refl hw,rfl,hg⟩
 | cons e r=>
  replace h:=bi h;obtain ⟨⟨c,g1⟩,h1,h2⟩:=h;refine wpAny_allTrue_And_cons (Ex.into (ok.t h1 hg hw R hA) fun c' W1 s1 k1 p1=>?_);cases p1.1;split at h2
  ·rename_i hb;rw [if_pos hb];exact Ex.into (ok.Ti h2 p1.2 k1.ok (R.QB k1) hA) fun c2 W2 s2 k2 r2=>⟨W2,k1.Qi k2,r2⟩
  ·rename_i hb;rw [if_neg hb];cases h2;exact ⟨W1,k1,rfl,p1.2⟩
theorem HD:∀ (ok:Ok J n),∀ {sc st es g d g' pos env ow A W s},ceAnd P0 (n+1) sc st es g=some (d,g')->W.H=g->Qn J W s->Ql J W s.heap sc st env ow->Qs (n+1) A->Ex J A (boolOp pos .And (evalEach es env)) [] W s (li J d g'):=by iterate 1
 intro sc st es g d g' pos env ow A W s h hg hw R QY;have hA:Qs n A:=QY.le (bV n);cases es with
 | nil=>cases h
 | cons e r=>
  cases r with
  | nil=>exact ok.e h hg hw R hA
  | cons e2 r=>
   replace h:=qI h;obtain ⟨⟨d1,g1⟩,h1,b,h2,h3⟩:=h;show aD _ A (do
    let v <-eval e env
    ky pos
    let t <-lH [v] (truthy v)
    match BoolOp.And,t with
    | .And,false | .Or,true=>pure v
    | _,_=>boolOp pos .And (evalEach (e2::r) env)) _ _ s
   refine ae (Ex.into (ok.e h1 hg hw R hA) fun v W1 s1 k1 p1=>ae (bt (ae (bu (yT h2 p1.2 ?_)))));cases b with
   | true=>exact Ex.into (ok.RQ h3 p1.1 k1.ok (R.QB k1) hA) fun c2 W2 s2 k2 r2=>⟨W2,k1.Qi k2,r2⟩
   | false=>cases h3;cases (show d1=_ from pL h2);exact ay ⟨W1,k1,p1.1,p1.2⟩
theorem KU:∀ {sc:aX} {st:St},∀ {n:Nat} {es:List Expr} {g:G} {ds:List D} {g':G},ceEs P0 n sc st es g=some (ds,g')->es.length=ds.length:=by iterate 2
 intro n;induction n with
 | zero=>intro es g ds g' h;cases h
 | succ n ih=>intro es g ds g' h;cases es with | nil=>cases h;rfl | cons e es=>replace h:=qI h;obtain ⟨a,h1,⟨ZZ,g1⟩,h2,h3⟩:=h;cases h3;exact congrArg (· +1) (ih h2)
theorem IB:∀ (ok:Ok J n),∀ {sc st es g ds g' pos env ow A W s},ceEs P0 (n+1) sc st es g=some (ds,g')->W.H=g->Qn J W s->Ql J W s.heap sc st env ow->Qs (n+1) A->
  (kC pos (eL es env)).any (·.1)=false/\es.length=ds.length/\Ex J A (eM (kC pos (eL es env))) [] W s (fun vs W' _=>W'.H=g'/\Qo J W'.F W'.as ds vs):=by iterate 1
 intro sc st es g ds g' pos env ow A W s h hg hw R QY;refine ⟨uU h,KU h,?_⟩;have hA:Qs n A:=QY.le (bV n);cases es with
 | nil=>cases h;rw [show eM (kC pos (eL [] env))=pure [] from rfl];exact ay ⟨W,Qk.refl hw,hg,rfl⟩
 | cons e r=>replace h:=qI h;obtain ⟨⟨d1,g1⟩,h1,⟨ZZ,g2⟩,h2,h3⟩:=h;cases h3;refine aR (Ex.into (ok.e h1 hg hw R hA) fun v W1 s1 k1 p1=>?_) (pC h1);exact Ex.into (ok.es h2 p1.1 k1.ok (R.QB k1) hA).2.2 fun vs W2 s2 k2 p2=>⟨W2,k1.Qi k2,p2.1,v,vs,rfl,p1.2.mono k2.le k2.as,p2.2⟩
theorem E0:∀ (ok:Ok J n),∀ {sc st es g b g' env ow A W s},ceIfs P0 (n+1) sc st es g=some (b,g')->W.H=g->Qn J W s->Ql J W s.heap sc st env ow->Qs (n+1) A->
  Ex J A (forIn es true fun c r=>if r=true then do let ok <-jT c env (eval c env);pure (b9 ok) else pure (b9 r)) [] W s (fun c W' _=>c=b/\W'.H=g'):=by iterate 1
 intro sc st es g b g' env ow A W s h hg hw R QY;have hA:Qs n A:=QY.le (bV n);cases es with | nil=>cases h;rw [jY];exact ay ⟨W,Qk.refl hw,rfl,hg⟩ | cons e r=>replace h:=bi h;obtain ⟨_,h1,h⟩:=h;cases oU h1;rw [mG];rw [if_pos rfl];refine ae (ae (Ex.into (ok.t h hg hw R hA) fun c W1 s1 k1 r1=>ay ?_));dsimp only;rw [jY];exact ay ⟨W1,k1,r1⟩
theorem He:∀ (ok:Ok J n),∀ {sc st o g i g' env ow A W s},ceOpt P0 (n+1) sc st o g=some (i,g')->W.H=g->Qn J W s->Ql J W s.heap sc st env ow->Qs (n+1) A->Ex J A (evalPart o env) [] W s (fun v W' _=>W'.H=g'/\RK i v):=by iterate 1 intro sc st o g i g' env ow A W s h hg hw R QY;have hA:Qs n A:=QY.le (bV n);cases o with | none=>cases h;exact gz ⟨W,Qk.refl hw,hg,rfl⟩ | some e=>replace h:=qI h;obtain ⟨⟨d,g1⟩,h1,j,h2,h3⟩:=h;cases h3;cases (show d=_ from be h2);exact m6 (Ex.into (ok.e h1 hg hw R hA) fun v W1 s1 k1 p1=>⟨W1,k1,p1.1,p1.2⟩)
theorem IA:Ok J 0:=by iterate 0
 exact {
  comp:=fun h=>by cases h
  e:=fun h=>by cases h
  t:=fun h=>by cases h
  UJ:=fun h=>by cases h
  Ti:=fun h=>by cases h
  RQ:=fun h=>by cases h
  es:=fun h=>by cases h
  ifs:=fun h=>by cases h
  opt:=fun h=>by cases h}
theorem H6:∀ (fx:Fx J) (lx:Lx J n) (ok:Ok J n) (call:wo J n),Ok J (n+1):=by iterate 4
 exact {
  comp:=ub fx ok
  e:=L5 fx lx ok call
  t:=Mj fx ok
  UJ:=IW ok
  Ti:=D0 ok
  RQ:=HD ok
  es:=IB ok
  ifs:=E0 ok
  opt:=He ok}
end
structure Bs where
 W:Wd
 s:ah
 ow:List Addr
theorem mm3:Nonempty Bs:=by iterate 0 exact (mm1.elim fun w=>⟨⟨w,{},[]⟩⟩)
structure Run (J:Cx) (W0:Wd) (s0:ah) (B:Bs) (sc:aX) (env:Env) (st:St) (ow:List Addr) (W:Wd) (s:ah):Prop where
 RT:Qn J W0 s0
 tr:Qk J [] W0 s0 W s
 R:Ql J W s.heap sc st env ow
 fr:∀ a∈am env,s0.heap.get? a=none
 S8:∀ a∈ow,s0.heap.get? a=none
 le:PM.le B.W.F W.F
 as:Pre B.W.as W.as
 gens:∀ (i:Nat) (g:di),B.s.gens[i]? =some g->s.gens[i]? =some g
 there:∀ a o,B.s.heap.get? a=some o->∃ o',s.heap.get? a=some o'
 keep:∀ a,Apart J B.W B.s.heap a->a∉am env->a∉B.ow->Apart J W s.heap a/\∀ o,B.s.heap.get? a=some o->s.heap.get? a=some o
 S7:∀ a∈ow,a∈B.ow\/B.s.heap.get? a=none
section
variable {J:Cx} {A:bf} {W W0 W':Wd} {s s0 s':ah} {sc:aX} {st st':St} {env:Env} {ow UX:List Addr} {n:Nat} {B:Bs} {X:List Addr}
theorem Run.start:∀ (RT:Qn J W0 s0) (tr:Qk J [] W0 s0 W s) (R:Ql J W s.heap sc st env ow) (fr:∀ a∈am env,s0.heap.get? a=none) (S8:∀ a∈ow,s0.heap.get? a=none),Run J W0 s0 ⟨W,s,ow⟩ sc env st ow W s:=by iterate 5 exact (⟨RT,tr,R,fr,S8,PM.le.refl _,Pre.refl _,fun _ _ e=>e,fun _ o e=>⟨o,e⟩,fun _ h _ _=>⟨h,fun _ e=>e⟩,fun _ h=> .inl h⟩)
theorem Run.rebase:∀ (r:Run J W0 s0 B sc env st ow W s),Run J W0 s0 ⟨W,s,ow⟩ sc env st ow W s:=by iterate 1 exact (Run.start r.RT r.tr r.R r.fr r.S8)
theorem Run.ok:∀ (r:Run J W0 s0 B sc env st ow W s),Qn J W s:=by iterate 1 exact (r.tr.ok)
theorem Run.RH:∀ {a:Addr} (r:Run J W0 s0 B sc env st ow W s) (h:s.heap.get? a=none),B.s.heap.get? a=none:=by iterate 3 cases e:B.s.heap.get? a with | none=>rfl | some o=>obtain ⟨o',h'⟩:=r.there a o e;rw [h] at h';cases h'
theorem Run.join:∀ (r:Run J W0 s0 B sc env st ow W s) (q:Run J W0 s0 ⟨W,s,ow⟩ sc env st' UX W' s'),Run J W0 s0 B sc env st' UX W' s':=by iterate 2
 exact {
  RT:=q.RT
  tr:=q.tr
  R:=q.R
  fr:=q.fr
  S8:=q.S8
  le:=r.le.trans q.le
  as:=r.as.trans q.as
  gens i g e:=q.gens i g (r.gens i g e)
  there a o e:=by obtain ⟨o1,e1⟩:=r.there a o e;exact q.there a o1 e1
  keep a h1 h2 h3:=by
   obtain ⟨k1,k2⟩:=r.keep a h1 h2 h3;obtain ⟨k3,k4⟩:=q.keep a k1 h2 (fun hm=>by
    rcases r.S7 a hm with z | z
    ·exact h3 z
    ·obtain ⟨_,_,_,o,e⟩:=h1;rw [z] at e;cases e)
   exact ⟨k3,fun o e=>k4 o (k2 o e)⟩
  S7 a h:=by
   rcases q.S7 a h with z | z
   ·exact r.S7 a z
   ·exact .inr (r.RH z)}
theorem Run.expr:∀ (r:Run J W0 s0 B sc env st ow W s) (t:Qk J [] W s W' s'),Run J W0 s0 B sc env st ow W' s':=by iterate 2
 exact {
  RT:=r.RT
  tr:=r.tr.Qi t
  R:=r.R.QB t
  fr:=r.fr
  S8:=r.S8
  le:=r.le.trans t.le
  as:=r.as.trans t.as
  gens i g e:=t.gens i g (r.gens i g e)
  there a o e:=by obtain ⟨o1,e1⟩:=r.there a o e;exact t.there a o1 e1
  keep a h1 h2 h3:=by obtain ⟨k1,k2⟩:=r.keep a h1 h2 h3;exact ⟨k1.keep t,fun o e=>k1.at t (by simp) o (k2 o e)⟩
  S7:=r.S7}
theorem Run.S6:∀ (r:Run J W0 s0 B sc env st ow W s) (t:Qk J X W s W' s') (hX:∀ a∈X,a∈am env\/a∈ow\/B.s.heap.get? a=none/\s0.heap.get? a=none) (R:Ql J W' s'.heap sc st' env ow),Run J W0 s0 B sc env st' ow W' s':=by iterate 4
 exact {
  RT:=r.RT
  tr:=r.tr.trans t fun a ha=>by
   rcases hX a ha with z | z | z
   ·exact .inr (r.fr a z)
   ·exact .inr (r.S8 a z)
   ·exact .inr z.2
  R:=R
  fr:=r.fr
  S8:=r.S8
  le:=r.le.trans t.le
  as:=r.as.trans t.as
  gens i g e:=t.gens i g (r.gens i g e)
  there a o e:=by obtain ⟨o1,e1⟩:=r.there a o e;exact t.there a o1 e1
  keep a h1 h2 h3:=by
   obtain ⟨k1,k2⟩:=r.keep a h1 h2 h3;have hx:a∉X:=fun hm=>by
    rcases hX a hm with z | z | z
    ·exact h2 z
    ·rcases r.S7 a z with z | z
     ·exact h3 z
     ·obtain ⟨_,_,_,o,e⟩:=h1;rw [z] at e;cases e
    ·obtain ⟨_,_,_,o,e⟩:=h1;rw [z.1] at e;cases e
   exact ⟨k1.keep t,fun o e=>k1.at t hx o (k2 o e)⟩
  S7:=r.S7}
theorem Run.iter:∀ {I:Addr} {h':Heap} {tk:Nat} (r:Run J W0 s0 B sc env st ow W s) (hB:B.s.heap.get? I=none) (h0:s0.heap.get? I=none) (ap:W.F I=none/\I∉J.T/\I∉W.QF.flatten) (hf:I∉am env++ow) (k:∀ b o,b≠I->s.heap.get? b=some o->h'.get? b=some o),Run J W0 s0 B sc env st ow W {s with heap:=h',toks:=tk}:=by iterate 9
 exact {
  RT:=r.RT
  tr:=r.tr.Rw r.RT h0 ap k
  R:=r.R.Tr (tk:=tk) hf k
  fr:=r.fr
  S8:=r.S8
  le:=r.le
  as:=r.as
  gens:=r.gens
  there a o e:=by obtain ⟨o1,e1⟩:=r.there a o e;exact ⟨o1,k a o1 (fun q=>by rw [q,hB] at e;cases e) e1⟩
  keep a h1 h2 h3:=by
   obtain ⟨k1,k2⟩:=r.keep a h1 h2 h3;have ne:a≠I:=fun q=>by obtain ⟨_,_,_,o,e⟩:=h1;rw [q,hB] at e;cases e
   exact ⟨⟨k1.1,k1.2.1,k1.2.2.1,(by obtain ⟨o,e⟩:=k1.2.2.2;exact ⟨o,k a o ne e⟩)⟩,fun o e=>k a o ne (k2 o e)⟩
  S7:=r.S7}
theorem AW:∀ {x:Str} {o:OW} (h:st.own=some (x,o)) (y:Str) (d:D) (e:varD sc st.freeze y=some d),(y=x/\d=Nq o)\/varD sc st y=some d:=by iterate 6
 unfold varD at e ⊢;unfold St.freeze at e;rw [h] at e;by_cases q:y=x
 ·subst q;cases o<;>(cases z:sc.names.lookup y with
   | none=>rw [z] at e;cases e
   | some k=>rw [z] at e;cases k<;>simp [qd] at e ⊢ <;>first | exact .inl e.symm | exact .inr e)
 ·right;cases o<;>(cases z:sc.names.lookup y with
   | none=>rw [z] at e;cases e
   | some k=>rw [z] at e;cases k<;>simp [qi q] at e ⊢ <;>exact e)
theorem Run.freeze:∀ (r:Run J W0 s0 B sc env st ow W s),∃ W',W'.H=W.H/\Run J W0 s0 B sc env st.freeze [] W' s:=by iterate 1
 cases h:st.own with
 | none=>
  have:st.freeze=st:=by unfold St.freeze;rw [h]
  rw [this];refine ⟨W,rfl,?_⟩;exact {r with
   R:={r.R with
    apart:=fun a ha=>r.R.apart a (by simp at ha;exact aE _ ha)
    own:=fun x o e=>by rw [h] at e;cases e}
   S8:=fun a ha=>by simp at ha
   S7:=fun a ha=>by simp at ha}
 | some p=>
  obtain ⟨x,o⟩:=p;obtain ⟨ZG,a,rfl,ha,hv,S0⟩:=r.R.own x o h;have apA:Apart J W s.heap a:=⟨r.R.Wu (by simp) ha,(r.R.apart a (by simp)).2⟩
  obtain ⟨ob,e,tr',rd⟩:=wk r.tr (r.S8 a (by simp)) apA S0;have le:PM.le W.F (W.Q3 a ob).F:=fun b o' e'=>by
   show (if b=a then some ob else W.F b)=some o';by_cases hb:b=a
   ·subst hb;rw [apA.1] at e';cases e'
   ·rw [if_neg hb];exact e'
  have apk:∀ b,b≠a->Apart J W s.heap b->Apart J (W.Q3 a ob) s.heap b:=fun b hb h=>h.Q3 hb;refine ⟨W.Q3 a ob,rfl,{
   RT:=r.RT
   tr:=tr'
   fr:=r.fr
   S8:=fun b hb=>by simp at hb
   le:=r.le.trans le
   as:=r.as
   gens:=r.gens
   there:=r.there
   keep:=fun b h1 h2 h3=>by
    obtain ⟨k1,k2⟩:=r.keep b h1 h2 h3;refine ⟨apk b (fun q=>?_) k1,k2⟩;rcases r.S7 a (by simp) with z | z
    ·exact h3 (q▸z)
    ·obtain ⟨_,_,_,o,e⟩:=h1;rw [q,z] at e;cases e
   S7:=fun b hb=>by simp at hb
   R:={
    kind:=r.R.kind
    glob:=r.R.glob
    bi:=r.R.bi
    kd:=r.R.kd
    ns:=r.R.ns
    cells:=r.R.cells
    inj:=r.R.inj
    Rr:=r.R.Rr
    vars:=fun y d hy=>by
     rcases AW h y d hy with ⟨rfl,rfl⟩ | q
     ·exact ⟨_,hv,rd⟩
     ·obtain ⟨v,h1,h2⟩:=r.R.vars y d q;exact ⟨v,h1,h2.mono le (Pre.refl _)⟩
    apart:=fun b hb=>by rw [aS] at hb;have z:=r.R.apart b (aE _ hb);refine ⟨z.1.imp (fun z1=>?_) id,z.2⟩;show (if b=a then some ob else W.F b)=none;rw [if_neg (fun (q:b=a)=>ha (q▸hb))];exact z1
    own:=fun y o' hy=>by
     have:st.freeze.own=none:=by unfold St.freeze;rw [h];cases o<;>rfl
     rw [this] at hy;cases hy
    Rc:=fun y o' hy=>by
     have:st.freeze.own=none:=by unfold St.freeze;rw [h];cases o<;>rfl
     rw [this] at hy;cases hy}}⟩
end
end MP.Lake
namespace MP.Lake
open PySem PyProof.Rows
open AutoSeq1 (wpAny_loadPart')
theorem zB:∀ (l:Addr) (items:Array ag) (n:Nat) (b:Addr) (SF:Array ag) (n2:Nat) (dd dd2:Option Addr) (sl sl2:Array (Option ag)) (Xm:¬(!items.isEmpty&&cT (items.size+SF.size))=true) (ZO:items.size<=dw) (hs2:items.size+SF.size<=dw+1),Meets (ie.«list.extend» ⟨[.ref l,.ref b],[]⟩) (fun _ R s=>s.heap.get? l=some {cls:= .type "list",dict:=dd,data:= .seq items n,slots:=sl}/\s.heap.get? b=some {cls:= .type "list",dict:=dd2,data:= .seq SF n2,slots:=sl2}/\R (.ok (.ret iI)) {s with heap:=s.heap.update l (iS fun x=>x++SF),toks:=s.toks}):=by iterate 13
 exact (.of_wp fun prog w A R s h=>by
  obtain ⟨hp,g,d,tk,os⟩:=s;obtain ⟨hl,hb,h⟩:=h;have f1:=iG;have f2:=jv;have f3:=jS;have f4:=jE;have f5:=jF;have VK:(items++SF).size<=dw+1:=by rw [Array.size_append];exact hs2
  wp_walk using (iu hl rfl (hz:=ZO) (_hz':=VK)),dW hl,dW hb;exact ⟨_,rfl,h⟩)
theorem yo:∀ (l:Addr) (items:Array ag) (n:Nat) (dd:Option Addr) (sl:Array (Option ag)) (Vz:items.size<=dw),Meets (ie.«list.reverse» ⟨[.ref l],[]⟩) (fun _ R s=>s.heap.get? l=some {cls:= .type "list",dict:=dd,data:= .seq items n,slots:=sl}/\R (.ok (.ret iI)) {s with heap:=s.heap.update l (iS fun x=>x.reverse),toks:=s.toks}):=by iterate 6
 exact (.of_wp fun prog w A R s h=>by
  obtain ⟨hp,g,d,tk,os⟩:=s;obtain ⟨hl,h⟩:=h;have f1:=iG;have f2:=jv;have f3:=jS;have f4:=jE;have f5:=jF;have VK:items.reverse.size<=dw+1:=by rw [Array.size_reverse];omega
  wp_walk using (iu hl rfl (hz:=Vz) (_hz':=VK)),dW hl;exact ⟨_,rfl,h⟩)
section
variable {J:Cx} {A:bf} {W W0 W':Wd} {s s0 s':ah} {sc:aX} {st st':St} {env:Env} {ow UX:List Addr} {n:Nat} {B:Bs} {X:List Addr}
noncomputable def wc (J:Cx) (s:ah) (a:Addr) (vs:Array ag) (s':ah):Prop:=∃ h' tk,s'={s with heap:=h',toks:=tk}/\bW a s.heap h'/\bS h' a vs
theorem ug:∀ {a:Addr} {vs:Array ag} {f:Array ag->Array ag} {o:Obj} {n:Nat} (e:s.heap.get? a=some o) (c:o.cls= .type "list") (d:o.dict=none) (dt:o.data= .seq vs n),bS (s.heap.update a (iS f)) a (f vs):=by iterate 9 obtain ⟨n',Vm⟩:=Obj.data_mapSeq dt f;have hf:(o.mapSeq f).isFreed=false:=Obj.isFreed_of_seq Vm;refine ⟨_,n',Heap.get?_update_self _ e hf,(Obj.cls_mapSeq ..).trans c,?_,Vm⟩;obtain ⟨c0,d0,ZY,s0⟩:=o;simp only at dt d;subst dt;exact d
theorem wu:∀ {a b:Addr} {vs ws:Array ag} {o2:Obj} {n2:Nat} {E:ag->ah->Prop} (p:bS s.heap a vs) (e2:s.heap.get? b=some o2) (c2:o2.cls= .type "list") (dt2:o2.data= .seq ws n2) (Rm:vs.size+ws.size<=lim),aD (aC P0 J.w) A (call (.builtin "list.extend") [.ref a,.ref b]) (fun v s'=>v= .none/\wc J s a (vs++ws) s') E s:=by iterate 12
 obtain ⟨o,n,e,c,d,dt⟩:=id p;obtain ⟨cls,QC,data,sl⟩:=o;obtain ⟨af2,abV,data2,sl2⟩:=o2;simp only at c d dt c2 dt2;subst c;subst d;subst dt;subst c2;subst dt2;have h24:dw=16777216:=by decide
 have hl:lim=1048576:=rfl;refine iC fF ⟨_,e,rfl⟩ PySem.F.entry_list_extend (PySem.F.args_list_extend_2 _ _) (zB a vs n b ws n2 none abV sl sl2 ?_ (by omega) (by omega)) ⟨e,e2,?_⟩
 ·have:cT (vs.size+ws.size)=false:=by
   unfold cT;exact decide_eq_false (by omega)
  rw [this];simp
 ·exact ⟨rfl,_,_,rfl,eJ ..,ug e rfl rfl rfl⟩
theorem zt:∀ {a:Addr} {vs:Array ag} {E:ag->ah->Prop} (p:bS s.heap a vs) (Rm:vs.size<=lim),aD (aC P0 J.w) A (call (.builtin "list.reverse") [.ref a]) (fun v s'=>v= .none/\wc J s a vs.reverse s') E s:=by iterate 5 obtain ⟨o,n,e,c,d,dt⟩:=id p;obtain ⟨cls,QC,data,sl⟩:=o;simp only at c d dt;subst c;subst d;subst dt;have:=pe;refine iC jm ⟨_,e,rfl⟩ PySem.F.entry_list_reverse (PySem.F.args_list_reverse_1 _) (yo a vs n none sl (by omega)) ⟨e,?_⟩;exact ⟨rfl,_,_,rfl,eJ ..,ug e rfl rfl rfl⟩
theorem tW:∀ {a:Addr} {vs:Array ag} {x:ag} {E:ag->ah->Prop} (p:bS s.heap a vs) (Rm:vs.size<=lim),aD (aC P0 J.w) A (call (.builtin "list.append") [.ref a,x]) (fun v s'=>v= .none/\wc J s a (vs.push x) s') E s:=by iterate 6 have:=pe;exact ji p (fun h' p' sb=>⟨rfl,_,_,rfl,sb,p'⟩) (by omega)
theorem Qo.reverse:∀ {F:PM} {as:List Addr} {ds:List D} {vs:List ag} (r:Qo J F as ds vs),Qo J F as ds.reverse vs.reverse:=by iterate 5
 exact (Qo.of_get (by simp [r.length]) fun i d v h1 h2=>by
 have hi:i<ds.length:=by have:=(aj.mp h1).1;simpa using this
 have l:=r.length;rw [bP hi] at h1;rw [bP (by omega),l] at h2;obtain ⟨v',h3,h4⟩:=r.get h1;rw [h3] at h2;cases h2;exact h4)
theorem Hx:∀ {m:Str} {xs ys ds:List D} (e:ownMeth m xs ds=some ys),∃ id,Slot "list" m id/\typeOf (.builtin id)=pure (.type "method_descriptor")/\∀ {A:bf} {W:Wd} {s:ah} {a:Addr} {vs:List ag} {E:ag->ah->Prop},QN J W s.heap (.lst xs) a->Qo J W.F W.as ds vs->Qn J W s->
   aD (aC P0 J.w) A (call (.builtin id) (.ref a::vs)) (fun v s'=>v= .none/\∃ h' tk,s'={s with heap:=h',toks:=tk}/\bW a s.heap h'/\QN J W h' (.lst ys) a) E s:=by iterate 5
 have xb:∀ {W:Wd} {s:ah} {a:Addr},QN J W s.heap (.lst xs) a->xs.length<=lim/\∃ ws,bS s.heap a ws/\Qo J W.F W.as xs ws.toList/\ws.size=xs.length:=fun h=>by obtain ⟨hl,ws,p,Wb⟩:=h;exact ⟨hl,ws,p,Wb,by rw [<-Wb.length,bA]⟩
 cases ds with
 | nil=>
  replace e:(if m==("reverse" :Str) then _ else _)=_:=e;split at e
  ·rename_i hm;cases eq_of_beq hm;cases e;refine ⟨"list.reverse",jm,PySem.F.type_list_reverse,fun h r hw=>?_⟩;obtain ⟨hl,ws,p,Wb,Rm⟩:=xb h;rw [sI r];refine af (zt p (by omega)) (fun v s' y0=>?_) fun _ _ f=>f;obtain ⟨hv,h',tk,hs,sb,p'⟩:=y0;refine ⟨hv,h',tk,hs,sb,?_⟩;exact ⟨by simpa using hl,_,p',by rw [Array.toList_reverse];exact Wb.reverse⟩
  ·cases e
 | cons d r=>
  replace e:=bi e;obtain ⟨_,h1,e⟩:=e;cases oU h1;replace e:(if m==("append" :Str) then _ else _)=_:=e;split at e
  ·rename_i hm;cases eq_of_beq hm;split at e
   ·rename_i RJ;cases e;refine ⟨"list.append",fG,fE,fun h r hw=>?_⟩;obtain ⟨hl,ws,p,Wb,Rm⟩:=xb h;obtain ⟨v,rfl,rv⟩:=qC r;refine af (tW p (by omega)) (fun v s' y1=>?_) fun _ _ f=>f;obtain ⟨hv,h',tk,hs,sb,p'⟩:=y1;refine ⟨hv,h',tk,hs,sb,?_⟩;exact ⟨by simp;omega,_,p',by rw [gh];exact Wb.append (Qo.one rv)⟩
   ·cases e
  ·split at e
   ·rename_i hm;cases eq_of_beq hm;replace e:=bi e;obtain ⟨zs,h1,e⟩:=e;cases ph h1;split at e
    ·rename_i RJ;cases e;refine ⟨"list.extend",fF,jx,fun h r hw=>?_⟩;obtain ⟨hl,ws,p,Wb,Rm⟩:=xb h;obtain ⟨v,rfl,rv⟩:=qC r;obtain ⟨VQ,a2,us,n2,s2,rfl,e2,r2⟩:=io rv;have hus:=r2.length;refine af (wu (ws:=us.toArray) p (hw.sub _ _ e2) rfl rfl (by simp at RJ ⊢;omega)) (fun v s' y2=>?_) fun _ _ f=>f;obtain ⟨hv,h',tk,hs,sb,p'⟩:=y2;refine ⟨hv,h',tk,hs,sb,?_⟩;exact ⟨RJ,_,p',by simpa using Wb.append r2⟩
    ·cases e
   ·cases e
theorem Ql.Sz:∀ {x:Str} {o o':OW} {a:Addr} {h':Heap} (R:Ql J W s.heap sc st env [a]) (Ri:st.own=some (x,o)) (sb:bW a s.heap h') (ho:QN J W h' o' a) (hex:∃ ob,h'.get? a=some ob),Ql J W h' sc (qg st x o') env [a]:=by iterate 10
 obtain ⟨ZG,b,hb,hf,hv,_⟩:=R.own x o Ri;cases hb;have k:∀ b∈am env,∀ o,s.heap.get? b=some o->h'.get? b=some o:=fun b hb o e=>(sb.2 b (fun q=>hf (q▸hb))).trans e;exact {
  kind:=R.kind
  glob:=R.glob
  bi:=R.bi
  kd:=R.kd
  ns:=by obtain ⟨m,e⟩:=R.ns;exact ⟨m,Ns.keep e (k _ (by simp [am]))⟩
  vars:=fun y d e=>by obtain ⟨v,h1,h2⟩:=R.vars y d e;exact ⟨v,h1.keep k,h2⟩
  cells:=fun y e=>by obtain ⟨c,v,h1,o,h2,h3⟩:=R.cells y e;exact ⟨c,v,h1,o,k _ (av _ (aH.mpr ⟨(y,c),al h1,rfl⟩)) _ h2,h3⟩
  inj:=R.inj
  Rr:=R.Rr
  apart:=fun b hb=>by
   obtain ⟨z1,z2,z3,o,z4⟩:=R.apart b hb;refine ⟨z1,z2,z3,?_⟩;by_cases q:b=a
   ·rw [q];exact hex
   ·exact ⟨o,(sb.2 b q).trans z4⟩
  own:=fun y o e=>by cases e;exact ⟨ZG,a,rfl,hf,hv.keep k,ho⟩
  Rc:=fun y o e=>by cases e;exact R.Rc x _ Ri}
theorem QN.ex:∀ {o:OW} {a:Addr} {h:Heap} (ahb:QN J W h o a),∃ ob,h.get? a=some ob:=by iterate 4 cases o with | lst xs=>obtain ⟨_,vs,⟨o,n,e,_⟩,_⟩:=ahb;exact ⟨o,e⟩ | QC Qx=>obtain ⟨_,_,ws,⟨o,es,ep,e,_⟩,_⟩:=ahb;exact ⟨o,e⟩
theorem Run.Sz:∀ {x:Str} {o o':OW} {a:Addr} {h':Heap} {tk:Nat} (r:Run J W0 s0 B sc env st [a] W s) (Ri:st.own=some (x,o)) (sb:bW a s.heap h') (ho:QN J W h' o' a),Run J W0 s0 B sc env (qg st x o') [a] W {s with heap:=h',toks:=tk}:=by iterate 10
 exact (have z:=r.R.apart a (by simp)
 have zf:W.F a=none:=(by obtain ⟨_,b,e,hb,_⟩:=r.R.own _ _ Ri;cases e;exact r.R.Wu (by simp) hb)
 r.S6 (X:=[a]) (r.ok.sameBut (tk:=tk) sb ⟨zf,z.2.1,z.2.2.1⟩ ho.ex) (fun b hb=> .inr (.inl hb)) (r.R.Sz Ri sb ho ho.ex))
theorem Run.Rq:∀ {x:Str} {o:OW} {a:Addr} {v:ag} (r:Run J W0 s0 B sc env st [] W s) (Rz:st.own=none) (hx:pK sc x=true) (hn:st.ρ.lookup x=none) (ap:Apart J W s.heap a) (hf:a∉am env) (hB:B.s.heap.get? a=none) (h0:s0.heap.get? a=none) (ho:QN J W s.heap o a),aD (aC P0 J.w) A (gV env x (.ref a)) (fun _ s'=>Run J W0 s0 B sc env (⟨st.ρ,st.up,some (x,o)⟩) [a] W s') (fun _ _=>False) s:=by iterate 13
 refine af (zi (v:= .ref a) r.R r.ok hx QX.frame) (fun _ s' z3=>?_) fun _ _ e=>e;obtain ⟨k,h1,h2,h3,h4,h5,h6⟩:=z3;have vn:varD sc st x=none:=by unfold varD;rcases xE hx with q | q<;>(rw [q];exact hn)
 have R':Ql J W s'.heap sc (⟨st.ρ,st.up,some (x,o)⟩) env [a]:={
  kind:=r.R.kind
  glob:=r.R.glob
  bi:=r.R.bi
  kd:=r.R.kd
  ns:=h1
  vars:=fun y d e=>by have e:varD sc st y=some d:=e;obtain ⟨u,e1,e2⟩:=r.R.vars y d e;exact ⟨u,h3 y u (fun q=>by rw [q,vn] at e;cases e) e1,e2⟩
  cells:=h4
  inj:=r.R.inj
  Rr:=r.R.Rr
  apart:=fun b hb=>by
   rcases bF.mp hb with hb | hb
   ·obtain ⟨z1,z2,z3,o,z4⟩:=r.R.apart b (aE _ hb);exact ⟨z1,z2,z3,h6 b hb⟩
   ·simp at hb;subst hb;obtain ⟨z1,z2,z3,o,z4⟩:=ap;exact ⟨.inl z1,z2,z3,o,h5 b hf o z4⟩
  own:=fun y o' e=>by cases e;exact ⟨hx,a,rfl,hf,h2,ho.keep (PM.le.refl _) (Pre.refl _) (h5 a hf)⟩
  Rc:=fun y o' e=>by cases e;exact vn}
 have q:=Run.S6 (st':=⟨st.ρ,st.up,none⟩) r k (fun b hb=> .inl hb) (R:={
  kind:=r.R.kind
  glob:=r.R.glob
  bi:=r.R.bi
  kd:=r.R.kd
  ns:=h1
  vars:=fun y d e=>R'.vars y d e
  cells:=h4
  inj:=r.R.inj
  Rr:=r.R.Rr
  apart:=fun b hb=>by rw [aS] at hb;exact R'.apart b (aE _ hb)
  own:=fun y o' e=>by cases e
  Rc:=fun y o' e=>by cases e})
 exact {q with
  R:=R'
  S8:=fun b hb=>by simp at hb;subst hb;exact h0
  S7:=fun b hb=>by simp at hb;subst hb;exact .inr hB}
end
end MP.Lake
namespace MP.Lake
open PySem PyProof.Rows
section
variable {J:Cx} {A:bf} {W W0 W':Wd} {s s0 s':ah} {X:List Addr}
theorem Rn:∀ {L:List (List Addr)},L.flatten.Nodup↔(∀ x∈L,x.Nodup)/\L.Pairwise fun x y=>∀ b∈x,b∉y:=by iterate 1 unfold List.Nodup;rw [List.pairwise_flatten];refine and_congr Iff.rfl ?_;exact ⟨fun h=>h.imp fun {x y} k b hb So=>k b hb b So rfl,fun h=>h.imp fun {x y} k b hb c hc=>fun (q:b=c)=>k b hb (by rw [q];exact hc)⟩
theorem uQ:∀ {L:List (List Addr)} {l:Nat} {fp fp':List Addr} (h:L.flatten.Nodup) (e:L[l]? =some fp) (hn:fp'.Nodup) (hd:∀ b∈fp',b∈fp\/b∉L.flatten),(L.set l fp').flatten.Nodup:=by iterate 8
 rw [Rn] at h ⊢;obtain ⟨h1,h2⟩:=h;refine ⟨fun x hx=>?_,?_⟩
 ·rcases jX hx with q | q
  ·exact h1 x q
  ·rw [q];exact hn
 ·rw [fW] at h2 ⊢;intro i j hi hj hij;rw [List.length_set] at hi hj;have hl:=(aj.mp e).1;have he:=(aj.mp e).2;rw [mm,mm];have V4:∀ (k:Nat) (hk:k<L.length),k≠l->∀ b,b∈fp'->b∈L[k]->False:=fun k hk hkl b hb So=>by
   rcases hd b hb with q | q
   ·rcases lU hkl with z | z
    ·exact h2 k l hk hl z b So (by rw [he];exact q)
    ·exact h2 l k hl hk z b (by rw [he];exact q) So
   ·exact q (gJ.mpr ⟨_,b5 hk,So⟩)
  by_cases Wl:l=i
  ·subst Wl;have ZH:¬ l=j:=by omega
   rw [if_pos rfl,if_neg ZH];intro b hb So;exact V4 j hj (by omega) b hb So
  ·rw [if_neg Wl];by_cases ZH:l=j
   ·subst ZH;rw [if_pos rfl];intro b hb So;exact V4 i hi (by omega) b So hb
   ·rw [if_neg ZH];exact h2 i j hi hj hij
theorem Qk.Vv:∀ {l:Nat} {mo':MO} {a:Addr} {fp fp':List Addr} {h':Heap} {tk:Nat} (hw:Qn J W s) (ha:W.as[l]? =some a) (Uo:W.QF[l]? =some fp) (hk:∀ b o,b∉fp->s.heap.get? b=some o->h'.get? b=some o) (Vy:∀ b∈fp,∃ o,h'.get? b=some o) (Tc:RF J W.F W.as h' mo' a fp') (hf:∀ b∈fp',b∈fp\/s.heap.get? b=none) (WX:fp'.Nodup),Qk J X W s ⟨W.F,W.H.set l mo',W.as,W.QF.set l fp'⟩ {s with heap:=h',toks:=tk}:=by iterate 15
 have WG:∀ b∈fp,b∈W.QF.flatten:=fun b hb=>qK Uo hb;have fresh:∀ b,s.heap.get? b=none->b∉W.QF.flatten:=fun b hb hm=>by obtain ⟨o,e⟩:=(hw.RD b hm).2.2;rw [hb] at e;cases e
 have U0:∀ b,b∈(W.QF.set l fp').flatten->b∈W.QF.flatten\/(b∈fp'/\s.heap.get? b=none):=fun b hb=>by
  obtain ⟨x,hx,hbx⟩:=gJ.mp hb;rcases jX hx with q | q
  ·exact .inl (gJ.mpr ⟨x,q,hbx⟩)
  ·subst q;rcases hf b hbx with z | z
   ·exact .inl (WG b z)
   ·exact .inr ⟨hbx,z⟩
 have nd:=uQ hw.nodup Uo WX fun b hb=>(hf b hb).imp id fun z=>fresh b z;have V4:∀ (i:Nat) fpi,i≠l->W.QF[i]? =some fpi->∀ b∈fpi,b∉fp:=fun i fpi Wl e b hb So=>by
  have h2:=(Rn.mp hw.nodup).2;rw [fW] at h2;obtain ⟨hi,e1⟩:=aj.mp e;obtain ⟨hl,e2⟩:=aj.mp Uo;rcases lU Wl with z | z
  ·exact h2 i l hi hl z b (by rw [e1];exact hb) (by rw [e2];exact So)
  ·exact h2 l i hl hi z b (by rw [e2];exact So) (by rw [e1];exact hb)
 exact {
  ok:={
   sub:=fun b o e=>hk b o (fun q=>by rw [(hw.RD b (WG b q)).1] at e;cases e) (hw.sub b o e)
   base:=hw.base
   Ry:=hw.Ry
   low:=fun b o e=>by
    obtain ⟨o1,e1⟩:=hw.low b o e;by_cases q:b∈fp
    ·exact Vy b q
    ·exact ⟨o1,hk b o1 q e1⟩
   tab:=fun T hT=>(hw.tab T hT).keep (PM.le.refl _) fun o e=>hk _ o (fun q=>(hw.RD _ (WG _ q)).2.1 (cM hT)) e
   Q9:=by simp [hw.Q9]
   Rh:=by simp [hw.Rh]
   obj:=fun i mo b ZV h1 h2 h3=>by
    dsimp only at h1 h2 h3;rw [gq] at h1 h3;by_cases Wl:l=i
    ·subst Wl;rw [if_pos rfl] at h1 h3;split at h1
     ·split at h3
      ·cases h1;cases h3;rw [ha] at h2;cases h2;exact Tc
      ·cases h3
     ·cases h1
    ·rw [if_neg Wl] at h1 h3;exact (hw.obj i mo b ZV h1 h2 h3).keep (PM.le.refl _) (Pre.refl _) fun c hc o e=>hk c o (V4 i ZV (dz Wl) h3 c hc) e
   nodup:=nd
   RD:=fun b hb=>by
    rcases U0 b hb with q | ⟨q,z⟩
    ·obtain ⟨z1,z2,o,z3⟩:=hw.RD b q;refine ⟨z1,z2,?_⟩;by_cases q:b∈fp
     ·exact Vy b q
     ·exact ⟨o,hk b o q z3⟩
    ·have n:=hw.QL z;exact ⟨n.1,n.2.1,Tc.lt b q⟩
   bare:=hw.bare
   os:=hw.os}
  le:=PM.le.refl _
  fresh:=fun b o e=> .inl e
  keep:=fun b o h1 h2 _ e=>hk b o (fun q=>h2 (WG b q)) e
  there:=fun b o e=>by
   by_cases q:b∈fp
   ·exact Vy b q
   ·exact ⟨o,hk b o q e⟩
  as:=Pre.refl _
  QF:=fun b hb=>(U0 b hb).imp id fun z=>z.2
  gens:=fun i g e=>e}
theorem Qk.Xs:∀ {mo:MO} {a:Addr} {fp:List Addr} (tr:Qk J X W0 s0 W s) (hf:∀ b∈fp,Apart J W s.heap b/\s0.heap.get? b=none) (WX:fp.Nodup) (Tc:RF J W.F (W.as++[a]) s.heap mo a fp),Qk J X W0 s0 ⟨W.F,W.H++[mo],W.as++[a],W.QF++[fp]⟩ s:=by iterate 7
 have hw:=tr.ok;have pre:Pre W.as (W.as++[a]):=fun i x e=>by rw [bg (aj.mp e).1];exact e
 have U0:∀ b,b∈(W.QF++[fp]).flatten->b∈W.QF.flatten\/b∈fp:=fun b hb=>by
  rw [fk] at hb;rcases bF.mp hb with q | q
  ·exact .inl q
  ·exact .inr (by simpa using q)
 exact {
  ok:={
   sub:=hw.sub
   base:=hw.base
   Ry:=hw.Ry
   low:=hw.low
   tab:=hw.tab
   Q9:=by simp [hw.Q9]
   Rh:=by simp [hw.Rh]
   obj:=fun i mo' b ZV h1 h2 h3=>by
    dsimp only at h1 h2 h3;by_cases hi:i<W.H.length
    ·rw [bg hi] at h1;rw [bg (by rw [hw.Q9];exact hi)] at h2;rw [bg (by rw [hw.Rh];exact hi)] at h3;exact (hw.obj i mo' b ZV h1 h2 h3).keep (PM.le.refl _) pre fun _ _ _ e=>e
    ·have Vh:W.H.length<=i:=Nat.le_of_not_lt hi;rw [aT Vh] at h1;rw [aT (by rw [hw.Q9];exact Vh),hw.Q9] at h2;rw [aT (by rw [hw.Rh];exact Vh),hw.Rh] at h3;cases q:i-W.H.length with | zero=>rw [q] at h1 h2 h3;simp at h1 h2 h3;subst h1;subst h2;subst h3;exact Tc | succ k=>rw [q] at h1;simp at h1
   nodup:=by rw [fk,gn];refine ⟨hw.nodup,by simpa using WX,fun x hx y hy=>?_⟩;simp at hy;rintro rfl;exact (hf x hy).1.2.2.1 hx
   RD:=fun b hb=>by
    rcases U0 b hb with q | q
    ·exact hw.RD b q
    ·exact ⟨(hf b q).1.1,(hf b q).1.2.1,(hf b q).1.2.2.2⟩
   bare:=hw.bare
   os:=hw.os}
  le:=tr.le
  fresh:=tr.fresh
  keep:=tr.keep
  there:=tr.there
  as:=tr.as.trans pre
  QF:=fun b hb=>by
   rcases U0 b hb with q | q
   ·exact tr.QF b q
   ·exact .inr (hf b q).2
  gens:=tr.gens}
end
noncomputable def qp (J:Cx) (W0:Wd) (s0:ah) (B:Bs) (sc:aX) (env:Env) (st':St) (g':G) (fl:Fl) (f:Flow) (s':ah):Prop:=
 ∃ W',W'.H=g'/\match fl with
  | .next=>f= .next/\∃ UX,Run J W0 s0 B sc env st' UX W' s'
  | .ret d=>∃ v,f= .ret v/\Rd J W'.F W'.as d v/\Qk J [] W0 s0 W' s'
structure TJ (J:Cx) (n:Nat):Prop where
 ss:∀ {sc st ss g fl st' g' env ow A W0 s0 B W s},ceSs P0 n sc st ss g=some (fl,st',g')->W.H=g->Run J W0 s0 B sc env st ow W s->Qs n A->aD (aC P0 J.w) A (gg ss env) (qp J W0 s0 B sc env st' g' fl) (fun _ _=>False) s
 s_:∀ {sc st x g fl st' g' env ow A W0 s0 B W s},ceS P0 n sc st x g=some (fl,st',g')->W.H=g->Run J W0 s0 B sc env st ow W s->Qs n A->aD (aC P0 J.w) A (exec x env) (qp J W0 s0 B sc env st' g' fl) (fun _ _=>False) s
 Rg:∀ {sc st t b g fl st' g' env ow A W0 s0 B W s},CQ P0 n sc st t b g=some (fl,st',g')->W.H=g->Run J W0 s0 B sc env st ow W s->Qs n A->
  bQ (aC P0 J.w) A (.whileLoop t b [] env) (fun r s'=>∃ f,r= .ok f/\qp J W0 s0 B sc env st' g' fl f s') s
 Sg:∀ {sc st t ds b g fl st' g' env ow A W0 s0 B W s I St},wr P0 n sc st t ds b g=some (fl,st',g')->W.H=g->Run J W0 s0 B sc env st ow W s->Qs n A->QO J I St->St ds W s.heap->Apart J W s.heap I->I∉am env->I∉ow->B.s.heap.get? I=none->s0.heap.get? I=none->
  bQ (aC P0 J.w) A (.forLoop t (.ref I) b [] env) (fun r s'=>∃ f,r= .ok f/\qp J W0 s0 B sc env st' g' fl f s') s
section
variable {J:Cx} {A:bf} {W W0 W':Wd} {s s0 s':ah} {sc:aX} {st st':St} {env:Env} {ow UX:List Addr} {n:Nat} {B:Bs} {X:List Addr}
theorem FE:TJ J 0:=by iterate 0
 exact {
  ss:=fun h=>by cases h
  s_:=fun h=>by cases h
  Rg:=fun h=>by cases h
  Sg:=fun h=>by cases h}
theorem Js:∀ (ok:TJ J n),∀ {sc st ss g fl st' g' env ow A W0 s0 B W s},ceSs P0 (n+1) sc st ss g=some (fl,st',g')->W.H=g->Run J W0 s0 B sc env st ow W s->Qs (n+1) A->aD (aC P0 J.w) A (gg ss env) (qp J W0 s0 B sc env st' g' fl) (fun _ _=>False) s:=by iterate 1
 intro sc st ss g fl st' g' env ow A W0 s0 B W s h hg r QY;have hA:Qs n A:=QY.le (bV n);cases ss with
 | nil=>cases h;exact aW ⟨W,hg,rfl,ow,r⟩
 | cons x rest=>replace h:=bi h;obtain ⟨⟨RP,QU,g1⟩,h1,h2⟩:=h;refine ao (af (ok.s_ h1 hg r hA) (fun f s1 h=>?_) fun _ _ f=>f);obtain ⟨W1,Q5,h⟩:=h;cases RP with | next=>obtain ⟨rfl,SU,r1⟩:=h;exact ok.ss h2 Q5 r1 hA | ret d=>obtain ⟨v,rfl,rv,tr⟩:=h;cases h2;exact ⟨W1,Q5,v,rfl,rv,tr⟩
theorem BA:∀ (Qr:Ok J n) (ok:TJ J n),∀ {sc st t b g fl st' g' env ow A W0 s0 B W s},CQ P0 (n+1) sc st t b g=some (fl,st',g')->W.H=g->Run J W0 s0 B sc env st ow W s->Qs (n+1) A->
  bQ (aC P0 J.w) A (.whileLoop t b [] env) (fun r s'=>∃ f,r= .ok f/\qp J W0 s0 B sc env st' g' fl f s') s:=by iterate 2
 intro sc st t b g fl st' g' env ow A W0 s0 B W s h hg r QY;have hA:Qs n A:=QY.le (bV n);refine codeAny_whileLoop (fun k s'=>∃ W' QU g1 SU,vW (fun st g=>ceT P0 n sc st t g) (fun st g=>ceSs P0 n sc st b g) k QU g1=some (fl,st',g')/\Run J W0 s0 B sc env QU SU W' s'/\W'.H=g1) ?_ 200 ⟨W,st,g,ow,h,r,hg⟩;rintro k s' ⟨W',QU,g1,SU,h,r,hg⟩;cases k with
 | zero=>cases h
 | succ k=>
  replace h:=bi h;obtain ⟨⟨c,g2⟩,h1,h2⟩:=h;refine Ex.into (Qr.t h1 hg r.ok r.R hA) fun c' W1 s1 k1 p1=>?_;cases p1.1;have r1:=r.expr k1;split at h2
  ·rename_i hb;rw [if_pos hb];replace h2:=qI h2;obtain ⟨⟨ZW,RY,g3⟩,h3,u,h4,h5⟩:=h2;cases ZW with
   | ret d=>cases h4
   | next=>refine af (ok.ss h3 p1.2 r1 hA) (fun f s2 q=>?_) fun _ _ f=>f.elim;obtain ⟨W2,RW,rfl,ow2,r2⟩:=q;exact ⟨k,jq _,W2,RY,g3,ow2,h5,r2,RW⟩
  ·rename_i hb;rw [if_neg hb];cases h2;exact aW ⟨_,rfl,W1,p1.2,rfl,SU,r1⟩
theorem HN:∀ (ok:TJ J n),∀ {sc st t ds b g fl st' g' env ow A W0 s0 B W s I St},wr P0 (n+1) sc st t ds b g=some (fl,st',g')->W.H=g->Run J W0 s0 B sc env st ow W s->Qs (n+1) A->QO J I St->St ds W s.heap->Apart J W s.heap I->I∉am env->I∉ow->B.s.heap.get? I=none->s0.heap.get? I=none->
  bQ (aC P0 J.w) A (.forLoop t (.ref I) b [] env) (fun r s'=>∃ f,r= .ok f/\qp J W0 s0 B sc env st' g' fl f s') s:=by iterate 1
 intro sc st t ds b g fl st' g' env ow A W0 s0 B W s I St h hg r QY hit Rz QT Y1 YX hIB ZR;have hA:Qs n A:=QY.le (bV n);replace h:=bi h;obtain ⟨⟨X2,gF,rr⟩,h,TY⟩:=h;cases TY;replace h:iterLoop (MG (fs P0 n) sc t b) ds st g=some (X2,gF,rr):=h;generalize SH:MG (fs P0 n) sc t b=step at h;refine mQ (fun k s'=>∃ W' Ra QU g1 SU,k=Ra.length+1/\iterLoop step Ra QU g1=some (X2,gF,rr)/\Run J W0 s0 B sc env QU SU W' s'/\W'.H=g1/\St Ra W' s'.heap/\Apart J W' s'.heap I/\I∉SU) ?_ (ds.length+1) ⟨W,ds,st,g,ow,rfl,h,r,hg,Rz,QT,YX⟩;rintro k s' ⟨W',Ra,QU,g1,SU,rfl,h,r,hg,Rz,QT,YX⟩;have YY:I∉am env++SU:=fun hm=>by
  rcases bF.mp hm with q | q
  ·exact Y1 q
  ·exact YX q
 cases Ra with
 | nil=>cases h;refine hit.done A W' s' _ _ hA.1 Rz r.ok.sub QT.1 fun h' tk kk=>?_;have r1:=r.iter (tk:=tk) hIB ZR ⟨QT.1,QT.2.1,QT.2.2.1⟩ YY kk;exact aW ⟨_,rfl,W',hg,rfl,SU,r1⟩
 | cons d QD=>
  have body:∀ RY g2 x,step d QU g1=some (RY,g2,x)->∃ ρ RP,pX sc QU t=true/\bv t d QU.ρ=some ρ/\ceSs P0 n sc (QU.withRho ρ) b g1=some (RP,RY,g2)/\x=rK RP:=fun RY g2 x e=>by cases SH;obtain ⟨u,e1,ρ,e2,⟨RP,st3,g3⟩,e3,e4⟩:=vq e;cases e4;exact ⟨ρ,RP,dl e1,e2,e3,rfl⟩
  refine hit.next A W' s' d QD _ _ hA.1 Rz r.ok.sub QT.1 fun v h' tk rv VM hI1 kk lg=>?_;have r1:=r.iter (tk:=tk) hIB ZR ⟨QT.1,QT.2.1,QT.2.2.1⟩ YY kk;have Ze:Apart J W' h' I:=⟨QT.1,QT.2.1,QT.2.2.1,hI1⟩
  refine lg A t _ _ _ rfl ?_;have main:∀ RY g2 x,step d QU g1=some (RY,g2,x)->aD (aC P0 J.w) A (assign t env v) (fun _ Q4=>aD (aC P0 J.w) A (gg b env) (fun f QK=>∃ RP,x=rK RP/\∃ W3,W3.H=g2/\match RP with
     | .next=>f= .next/\∃ Uv,Run J W0 s0 B sc env RY Uv W3 QK/\St QD W3 QK.heap/\Apart J W3 QK.heap I/\I∉Uv
     | .ret d=>∃ v,f= .ret v/\Rd J W3.F W3.as d v/\Qk J [] W0 s0 W3 QK) (fun _ _=>False) Q4) (fun _ _=>False) {s' with heap:=h',toks:=tk}:=fun RY g2 x e=>by
   obtain ⟨ρ,RP,e1,e2,e3,rfl⟩:=body RY g2 x e;unfold pX at e1;rw [ai] at e1;have Qy:=ak.mp e1.1;refine af (uc (Y:=am env) hA.1 e2 (fun x hx=>by have:=Qy x hx;rw [ai] at this;exact ⟨this.2,this.1,QX.frame⟩) rv r1.R r1.ok) (fun _ s2 ⟨k2,R2⟩=>?_) fun _ _ f=>f;have r2:=r1.S6 k2 (fun a ha=> .inl ha) R2;have Zd:Apart J W' s2.heap I:=Ze.keep k2;have WN:St QD W' s2.heap:=hit.keep _ _ _ _ _ VM k2.le k2.as (Ze.at k2 Y1);refine af (ok.ss e3 hg r2.rebase hA) (fun f s3 y0=>?_) fun _ _ f=>f;obtain ⟨W3,Sf,q⟩:=y0;refine ⟨RP,rfl,W3,Sf,?_⟩;cases RP with
   | ret d=>exact q
   | next=>
    obtain ⟨hf,Uv,q⟩:=q;obtain ⟨k3,k4⟩:=q.keep I Zd Y1 YX;refine ⟨hf,Uv,r2.join q,hit.keep _ _ _ _ _ WN q.le q.as k4,k3,fun hm=>?_⟩;rcases q.S7 I hm with z | z
    ·exact YX z
    ·obtain ⟨_,_,_,o,e⟩:=Zd;rw [z] at e;cases e
  rcases pF h with ⟨RY,g2,e,QG⟩ | ⟨RY,g2,x,e,QG⟩
  ·refine af (main _ _ _ e) (fun _ s2 h2=>af h2 (fun f s3 z2=>?_) fun _ _ f=>f.elim) fun _ _ f=>f.elim;obtain ⟨RP,hx,W3,Sf,q⟩:=z2;cases RP with | ret d=>cases hx | next=>obtain ⟨rfl,Uv,r3,WM,ap3,ho3⟩:=q;exact ⟨QD.length+1,by simp,W3,QD,RY,g2,Uv,rfl,QG,r3,Sf,WM,ap3,ho3⟩
  ·refine af (main _ _ _ e) (fun _ s2 h2=>af h2 (fun f s3 z3=>?_) fun _ _ f=>f.elim) fun _ _ f=>f.elim;obtain ⟨RP,hx,W3,Sf,q⟩:=z3;cases QG;cases RP with | next=>cases hx | ret d=>cases hx;obtain ⟨v,rfl,rv3,t3⟩:=q;exact ⟨_,rfl,W3,Sf,v,rfl,rv3,t3⟩
end
noncomputable def pJ (J:Cx) (n:Nat):Prop:=∃ fv,pN J "_iter_escaped_chars" fv/\
 ∀ {sc st t x b g fl st' g' env ow A W0 s0 B W s v},wr P0 n sc st t (units x) b g=some (fl,st',g')->Rd J W.F W.as (.str x) v->W.H=g->Run J W0 s0 B sc env st ow W s->Qs n A->
  aD (aC P0 J.w) A (call fv [v]) (fun xv Qg=>aD (aC P0 J.w) A (kz xv) (fun it Q4=>bQ (aC P0 J.w) A (.forLoop t it b [] env) (fun r s'=>∃ f,r= .ok f/\qp J W0 s0 B sc env st' g' fl f s') Q4) (fun _ _=>False) Qg) (fun _ _=>False) s
section
variable {J:Cx} {A:bf} {W W0 W':Wd} {s s0 s':ah} {sc:aX} {st st':St} {env:Env} {ow UX:List Addr} {n:Nat} {B:Bs} {X:List Addr}
theorem Ac:∀ {e:Expr} {t:Option Expr} {l:Nat} (h:zA e=true),jg e t l env=pure false:=by iterate 4 cases e<;>first | rfl | cases h
theorem tH:∀ {e:Expr} {ts:List Expr} {k:Nat} {p:Pos} {l:Nat},swapsWithSole [.Tuple ts k p] e l env=pure false:=by iterate 5 cases e<;>rfl
theorem BP:∀ {e:Expr} {x:Str} {p:Pos} {l:Nat},(jg e (some (.Name x p)) l env=pure false)\/(jg e (some (.Name x p)) l env=pure true/\∃ q,vY env e=some q)\/(∃ a b c d,e= .SetComp a b c d):=by iterate 4
 cases e<;>first
  | exact .inl rfl
  | (rename_i a b c d;exact .inr (.inr ⟨a,b,c,d,rfl⟩))
  | (unfold jg;dsimp only;generalize (_&&_:Bool)=bb;cases bb;exact .inl rfl;exact .inr (.inl ⟨rfl,_,rfl⟩))
theorem Run.QW:∀ {a:Addr} (r:Run J W0 s0 B sc env st ow W s) (h:s.heap.get? a=none),a∉am env++ow:=by iterate 3
 exact (fun hm=>by
 obtain ⟨_,_,_,o,e⟩:=r.R.apart a hm;rw [h] at e;cases e)
theorem Run.store:∀ {x:Str} {v:ag} {d:D} (r:Run J W0 s0 B sc env st ow W s) (hx:pK sc x=true) (Tz:oO st x=true) (rd:Rd J W.F W.as d v),aD (aC P0 J.w) A (gV env x v) (fun _ s'=>Qk J (am env) W s W s'/\Run J W0 s0 B sc env (st.withRho ((x,d)::st.ρ)) ow W s') (fun _ _=>False) s:=by iterate 7 exact (af (vB r.R r.ok hx rd Tz QX.frame) (fun _ s' z0=>by obtain ⟨k,R⟩:=z0;exact ⟨k,r.S6 k (fun a ha=> .inl ha) R⟩) fun _ _ f=>f)
theorem B6:∀ {elt:Expr} {gens:List js} {Qh:aX} {p:Pos} {g:G} {r:D×G} (h:ceE P0 n sc st (.ListComp elt gens Qh p) g=some r),firstAsync gens=false:=by iterate 7
 cases n with
 | zero=>cases h
 | succ n=>replace h:Ay P0 (fs P0 n) sc st n g (ev (.ListComp elt gens Qh p))=some r:=h;generalize ev (.ListComp elt gens Qh p)=v at h;cases v with | other=>cases h | _=>rfl
theorem B2:∀ {k v:Expr} {gens:List js} {Qh:aX} {p:Pos} {g:G} {r:D×G} (h:ceE P0 n sc st (.DictComp k v gens Qh p) g=some r),firstAsync gens=false:=by iterate 8
 cases n with
 | zero=>cases h
 | succ n=>replace h:Ay P0 (fs P0 n) sc st n g (ev (.DictComp k v gens Qh p))=some r:=h;generalize ev (.DictComp k v gens Qh p)=w at h;cases w with | other=>cases h | _=>rfl
theorem wH:∀ {e:Expr} {x:Str} {xp pos:Pos} {g g1:G} {d:D} (Qr:Ok J n) (h:ceE P0 n sc st e g=some (d,g1)) (hg:W.H=g) (r:Run J W0 s0 B sc env st ow W s) (hA:Qs n A) (hx:pK sc x=true) (Tz:oO st x=true),aD (aC P0 J.w) A (exec (.Assign [.Name x xp] e pos) env) (qp J W0 s0 B sc env (st.withRho ((x,d)::st.ρ)) g1 .next) (fun _ _=>False) s:=by iterate 14
 rcases BP (env:=env) (e:=e) (x:=x) (p:=xp) (l:=pos.line) with hs | ⟨hs,q,hp⟩ | ⟨a,b,c,dd,rfl⟩
 ·refine bj (Ex.into (Qr.e h hg r.ok r.R hA) fun v W1 s1 k1 z1=>?_) hs;obtain ⟨Q5,rv⟩:=z1;exact af ((r.expr k1).store hx Tz rv) (fun _ s2 z2=>by obtain ⟨_,r2⟩:=z2;exact ⟨W1,Q5,rfl,ow,r2⟩) fun _ _ f=>f
 ·obtain ⟨Qh,abY,QA,first⟩:=q;rw [exec_Assign_Name_used _ _ _ _ hs];refine ae (bt ?_);have ev:=Qr.comp h hg r.ok r.R hA hp;have main:aD (aC P0 J.w) A (lJ e Qh env abY QA false first (some (assign (.Name x xp) env))) (fun _ s'=>qp J W0 s0 B sc env (st.withRho ((x,d)::st.ρ)) g1 .next .next s') (fun _ _=>False) s:=by
   refine ev _ _ fun W1 s1 k1 acc C s' z3=>?_;obtain ⟨_,W',t,ZJ,rd,ap,hC,m,RZ⟩:=z3;have r1:=r.expr (k1.Qi t);have Y3:C∉am env++ow:=(r.expr k1).QW hC;show aD _ A (assign (.Name x xp) env acc) _ _ s';refine cQ (af (r1.store hx Tz rd) (fun _ s2 z4=>?_) fun _ _ f=>f);obtain ⟨k2,r2⟩:=z4;have abH:C∉am env:=fun hm=>Y3 (aE _ hm);refine ⟨m,Ns.keep RZ (ap.at k2 abH),fun h' sb=>?_⟩;have XB:=ap.keep k2;have r3:=r2.iter (tk:=s2.toks) ((r.expr k1).RH hC) ((r.expr k1).tr.Qt hC) ⟨XB.1,XB.2.1,XB.2.2.1⟩ Y3 fun b o hb e=>(sb.2 b hb).trans e;exact ⟨W',ZJ,rfl,ow,r3⟩
  cases e<;>cases hp
  ·rw [<-B6 h] at main;exact ae (ae (af main (fun _ s' h=>ay (ay h)) fun _ _ f=>f))
  ·rw [<-B2 h] at main;exact ae (ae (af main (fun _ s' h=>ay (ay h)) fun _ _ f=>f))
 ·cases n<;>cases h
theorem Ai:∀ {x:Str} {o:OW} {st':St} (h:Rq st x o=some st'),st.freeze.ρ.lookup x=none/\st'=⟨st.freeze.ρ,st.freeze.up,some (x,o)⟩:=by iterate 4
 unfold Rq at h;cases q:st.freeze.ρ.lookup x with
 | some d=>rw [q] at h;cases h
 | none=>
  rw [q] at h;cases h;refine ⟨rfl,?_⟩;have:st.freeze.up=st.up:=by obtain ⟨_,_,_ | ⟨y,_ | _⟩⟩:=st<;>rfl
  rw [this]
theorem wZ:st.freeze.own=none:=by iterate 0 obtain ⟨_,_,_ | ⟨y,_ | _⟩⟩:=st<;>rfl
theorem Bx:∀ {I l:Addr} {vs:List ag} {all:List D},QO J I fun ds W h=>∃ k:Nat,k<=all.length/\ds=(all.take k).reverse/\h.IsRevIter I l ((k:Int)-1)/\Qo J W.F W.as all vs/\Q8 W.F l vs:=by iterate 4
 exact {
  self:=fun A W s ds Q E _ z0 hq=>by obtain ⟨k,_,_,h2,_⟩:=z0;exact mw h2 hq
  next:=fun A W s d ds Q E hA z1 hs hI hq=>by
   obtain ⟨k,h0,h1,h2,h3,h4⟩:=z1;cases k with
   | zero=>simp at h1
   | succ k=>
    have hk:k<all.length:=h0;have e1:all.take (k+1)=all.take k++[all[k]]:=by rw [gk,au hk];rfl
    rw [e1,List.reverse_append] at h1;simp only [gm,List.reverse_nil,a9,bc,gy] at h1;obtain ⟨rfl,rfl⟩:=h1;obtain ⟨v,e2,e3⟩:=h3.get (au hk);have hl:=Q8.isList h4 hs;have hi:((k+1:Nat):Int)-1=(k:Int):=by omega
    rw [hi] at h2;refine wpAny_pyNext_rev_item h2 hl (x:=v) (by simpa using e2) fun h' hit sb=>?_;refine hq v h' s.toks e3 ⟨k,fU hk,rfl,hit,h3,h4⟩ (by obtain ⟨o,e,_⟩:=hit;exact ⟨o,e⟩) (fun b o hb e=>(sb.2 b hb).trans e) fun A' target Q' E' s' Tv q=>?_;obtain ⟨o,e,c,dd⟩:=hit;exact py (by rw [Tv];exact e) c dd rfl q
  done:=fun A W s Q E hA z2 hs hI hq=>by
   obtain ⟨k,h0,h1,h2,h3,h4⟩:=z2;have:k=0:=by have:=congrArg fj h1;simp at this;omega
   subst this;exact wpAny_pyNext_rev_end hA h2 fun h' sb=>hq h' s.toks fun b o hb e=>sb b o hb e
  keep:=fun ds W W' h h' z3 k1 k2 k3=>by obtain ⟨k,h0,h1,⟨o,e,c,d⟩,h3,h4⟩:=z3;exact ⟨k,h0,h1,⟨o,k3 _ e,c,d⟩,h3.mono k1 k2,h4.mono k1⟩
  there:=fun ds W h z4=>by obtain ⟨k,h0,h1,⟨o,e,c,d⟩,_⟩:=z4;exact ⟨o,e⟩}
theorem zS:∀ {fl:Fl} {g':G} {t:Expr} {it:ag} {b:List Stmt} (h:bQ (aC P0 J.w) A (.forLoop t it b [] env) (fun r s'=>∃ f,r= .ok f/\qp J W0 s0 B sc env st' g' fl f s') s),bQ (aC P0 J.w) A (.forLoop t it b [] env) (fun r s'=>match r with | .ok f=>qp J W0 s0 B sc env st' g' fl f s' | .error e=>cameBackBy (aC P0 J.w) A env (fun _ _=>False) e s') s:=by iterate 6 exact (cP h fun r s' z5=>by obtain ⟨f,hr,h⟩:=z5;subst hr;exact h)
theorem NL:∀ {t it:Expr} {b:List Stmt} {pos:Pos} {g:G} {fl:Fl} {g':G} (fx:Fx J) (Qr:Ok J n) (ok:TJ J n) (gen:pJ J n) (h:(match qW sc "_iter_escaped_chars" it with
   | some a=>(ceE P0 n sc st a g).bind fun d=>(sG d.1).bind fun s=>wr P0 n sc st t (units s) b d.2
   | none=>match qW sc "reversed" it with
    | some a=>(ceE P0 n sc st a g).bind fun d=>(tj d.1).bind fun xs=>wr P0 n sc st t xs.reverse b d.2
    | none=>(ceE P0 n sc st it g).bind fun d=>(itemsOf d.1).bind fun ds=>wr P0 n sc st t ds b d.2)=some (fl,st',g')) (hg:W.H=g) (r:Run J W0 s0 B sc env st ow W s) (hA:Qs n A),aD (aC P0 J.w) A (exec (.For t it b [] pos) env) (qp J W0 s0 B sc env st' g' fl) (fun _ _=>False) s:=by iterate 15
 cases ha:qW sc "_iter_escaped_chars" it with
 | some a=>rw [ha] at h;replace h:=qI h;obtain ⟨⟨d,g1⟩,h1,x,h2,h3⟩:=h;cases (show d=_ from oK h2);obtain ⟨fp,cp,rfl,hc⟩:=xi ha;obtain ⟨fv,cf,Vo⟩:=gen;refine md ?_ (fun _=>rfl);refine bH (bk r.R.kind (r.R.global hc) (cf.1.load r.R r.ok ?_));refine pa (first:=[]) cf (by rw [pC h1];rfl) ?_;refine aR (Ex.into (Qr.e h1 hg r.ok r.R hA) fun v W1 s1 k1 p1=>?_) (pC h1);rw [show eM (kC cp (eL [] env))=pure [] from rfl];refine ay ⟨k1.ok.Qw,?_⟩;exact af (Vo h3 p1.2 p1.1 (r.expr k1) hA) (fun xv s2 h=>af h (fun it s3 h=>zS h) fun _ _ f=>f) fun _ _ f=>f
 | none=>
  rw [ha] at h;cases ha:qW sc "reversed" it with
  | some a=>
   rw [ha] at h;replace h:=qI h;obtain ⟨⟨d,g1⟩,h1,xs,h2,h3⟩:=h;cases (show d=_ from ph h2);obtain ⟨fp,cp,rfl,hc⟩:=xi ha;obtain ⟨mg,mb,q1,q2,_,_,_,_,_,_,q3,q4,_⟩:=fx.glob;refine md ?_ (fun _=>rfl);refine bH (bk r.R.kind (r.R.global hc) (S2.load ⟨mg,mb,q1,q2,.inr ⟨q3,q4⟩⟩ r.R r.ok ?_));refine ox ?_ (pC h1);refine aR (Ex.into (Qr.e h1 hg r.ok r.R hA) fun v W1 s1 k1 p1=>?_) (pC h1);refine aZ ?_;obtain ⟨hl,a1,ws,n1,sl1,rfl,e1,r1⟩:=io p1.2;refine call_reversed_list (items:=ws.toArray) ⟨_,k1.ok.sub _ _ e1,rfl,n1,rfl⟩ ?_;have t2:=Qk.push (X:=[]) (tk:=s1.toks) k1.ok (revObj a1 ((ws.toArray.size:Int)-1));have Rk:s1.heap.get? s1.heap.objs.size=none:=bn _;have Qz:({s1 with heap:=s1.heap.push (revObj a1 ((ws.toArray.size:Int)-1))}:ah).heap.IsRevIter s1.heap.objs.size a1 ((ws.toArray.size:Int)-1):=⟨_,ax _ rfl,rfl,rfl⟩
   refine mw Qz ?_;have Ug:=r.expr k1;have hf:=Ug.QW Rk;have nn:=k1.ok.QL Rk;have Rm:ws.toArray.size=xs.length:=by rw [<-r1.length];simp
   refine zS (ok.Sg (I:=s1.heap.objs.size) h3 p1.1 (Ug.expr t2) hA (Bx (l:=a1) (vs:=ws) (all:=xs)) ⟨xs.length,bN _,by simp,by rw [<-Rm];exact Qz,r1,⟨_,_,e1,rfl,rfl,rfl⟩⟩ ⟨nn.1,nn.2.1,nn.2.2,_,ax _ rfl⟩ (fun hm=>hf (aE _ hm)) (fun hm=>hf (cU _ hm)) (Ug.RH Rk) (Ug.tr.Qt Rk))
  | none=>rw [ha] at h;replace h:=qI h;obtain ⟨⟨d,g1⟩,h1,ds,h2,h3⟩:=h;refine md (Ex.into (Qr.e h1 hg r.ok r.R hA) fun v W1 s1 k1 p1=>?_) (vO h1);have r1:=r.expr k1;refine af (wj h2 p1.2 k1.ok) (fun jt s2 q=>?_) fun _ _ f=>f;obtain ⟨I,St,rfl,hit,Rz,VA,k2⟩:=q;have hf:=r1.QW VA;have nn:=k1.ok.QL VA;exact zS (ok.Sg h3 p1.1 (r1.expr k2) hA hit Rz ⟨nn.1,nn.2.1,nn.2.2,hit.there _ _ _ Rz⟩ (fun hm=>hf (aE _ hm)) (fun hm=>hf (cU _ hm)) (r1.RH VA) (r1.tr.Qt VA))
end
theorem Gw:∀ (c:Str->Pos->Bool) (f:Expr->Option Str) (hf:∀ id pos,f (.Name id pos)=if c id pos=true then some id else none),∀ (xps:List (Str×Pos)),((xps.map fun p=>eA p.1 p.2).filterMap f).length<=xps.length/\
  (((xps.map fun p=>eA p.1 p.2).filterMap f).length=xps.length->(xps.map fun p=>eA p.1 p.2).filterMap f=xps.map (·.1)):=by iterate 3
 intro xps;induction xps with
 | nil=>exact ⟨bN _,fun _=>rfl⟩
 | cons p r Qj=>rw [aB,fq,hf];cases h:c p.1 p.2 with | true=>simp only [if_true,aI,aB];exact ⟨by omega,fun q=>by rw [Qj.2 (by omega)]⟩ | false=>simp only [bX,if_false,aI];exact ⟨by omega,fun q=>by omega⟩
theorem xj:∀ {α:Type} {c:Prop} {a b x y:α} [Decidable c] (h1:c->a=x\/a=y) (h2:¬ c->b=x\/b=y),(if c then a else b)=x\/(if c then a else b)=y:=by iterate 9
 by_cases h:c
 ·rw [if_pos h];exact h1 h
 ·rw [if_neg h];exact h2 h
theorem yu:∀ {xps:List (Str×Pos)} {k:Nat} {p:Pos} {e:Expr} {env:Env} (h:uR e=true),lF [.Tuple (xps.map fun p=>eA p.1 p.2) k p] e env=pure none\/lF [.Tuple (xps.map fun p=>eA p.1 p.2) k p] e env=pure (some (xps.map (·.1))):=by iterate 6
 unfold lF;cases e<;>try exact .inl rfl
 rename_i vs k2 p2;dsimp only;refine xj (fun _=> .inl rfl) fun _=>?_;refine xj (fun _=> .inl rfl) fun _=>?_;refine xj (fun _=> .inl rfl) fun hc=>?_;refine xj (fun _=> .inl rfl) fun _=>?_;refine xj (fun hk=>?_) fun _=>?_
 ·exfalso;have h:(!(vs.all (constantsAlone 8)))=true:=h;rw [hk] at h;cases h
 ·right;simp -iota only [jD,bne_iff_ne,ne_eq,not_or,kH] at hc;have:=(Gw (fun id pos=>env.kindOf id==some NameKind.local&&pos.line==(Option.map (fun x:Expr=>x.pos.line) (xps.map fun p=>eA p.1 p.2).head?).getD 0) _ (fun _ _=>rfl) xps).2 (by have:=hc.1;rw [aG] at this;exact this);exact congrArg (fun l=>(pure (some l):Sem (Option (List Str)))) this
section
variable {J:Cx} {A:bf} {W W0 W':Wd} {s s0 s':ah} {sc:aX} {st st':St} {env:Env} {ow UX:List Addr} {n:Nat} {B:Bs} {X:List Addr}
theorem uW:∀ {t:Expr} (h:pX sc st t=true),(∀ x∈oR t,pK sc x=true/\oO st x=true/\QX sc env (am env) x)/\cr (oR t)=true:=by iterate 2 unfold pX at h;rw [ai] at h;refine ⟨fun x hx=>?_,h.2⟩;have:=ak.mp h.1 x hx;rw [ai] at this;exact ⟨this.2,this.1,QX.frame⟩
theorem Ic:∀ {ts:List Expr} {k:Nat} {tp pos:Pos} {e:Expr} {g g1:G} {d:D} {ρ:Qm} (Qr:Ok J n) (h1:pX sc st (.Tuple ts k tp)=true) (hp:uR e=true) (h2:ceE P0 n sc st e g=some (d,g1)) (h3:bv (.Tuple ts k tp) d st.ρ=some ρ) (hg:W.H=g) (r:Run J W0 s0 B sc env st ow W s) (hA:Qs n A),aD (aC P0 J.w) A (exec (.Assign [.Tuple ts k tp] e pos) env) (qp J W0 s0 B sc env (st.withRho ρ) g1 .next) (fun _ _=>False) s:=by iterate 17
 have hf:=uW (env:=env) h1;rcases qy h3 with ⟨x,p,hx,_⟩ | ⟨xps,ds,k',p',hx,hd,hl,rfl⟩
 ·cases hx
 ·cases hx;rw [qR] at hf;rcases yu (env:=env) (xps:=xps) (k:=k) (p:=tp) hp with hs | hs
  ·refine Assign_Tuple (Ex.into (Qr.e h2 hg r.ok r.R hA) fun v W1 s1 k1 z0=>?_) tH hs;obtain ⟨Q5,rv⟩:=z0;have r1:=r.expr k1;refine af (uc (Y:=am env) hA.1 h3 (by rw [qR];exact hf.1) rv r1.R r1.ok) (fun _ s2 z1=>?_) fun _ _ f=>f;obtain ⟨k2,R2⟩:=z1;exact ⟨W1,Q5,rfl,ow,r1.S6 k2 (fun a ha=> .inl ha) R2⟩
  ·refine Assign_Tuple_swapped (Ex.into (Qr.e h2 hg r.ok r.R hA) fun v W1 s1 k1 z2=>?_) tH hs;obtain ⟨Q5,rv⟩:=z2;have r1:=r.expr k1;refine af (B8 (Y:=am env) hA.1 hd hl hf.2 hf.1 rv r1.R r1.ok) (fun _ s2 h=>af h (fun _ s3 z3=>?_) fun _ _ f=>f) fun _ _ f=>f;obtain ⟨k2,R2⟩:=z3;exact ⟨W1,Q5,rfl,ow,r1.S6 k2 (fun a ha=> .inl ha) R2⟩
theorem wd:∀ {l:Nat} {rows:List (List D)} {a:Addr} (hw:Qn J W s) (h:W.H[l]? =some (.Qu rows)) (ha:W.as[l]? =some a),rows.length<=lim/\∃ vs rs,bS s.heap a vs/\vs.toList=rs.map ef/\W.QF[l]? =some (a::rs)/\rs.length=rows.length/\(∀ (i:Nat) ds r,rows[i]? =some ds->rs[i]? =some r->ds.length<=lim/\∃ ws,bS s.heap r ws/\Qo J W.F W.as ds ws.toList)/\(a::rs).Nodup:=by iterate 6
 have hi:l<W.QF.length:=by rw [hw.Rh];exact (aj.mp h).1
 have z:=hw.obj l _ a _ h ha (au hi);dsimp only [RF] at z;obtain ⟨hl,vs,rs,h1,h2,h3,h4,h5⟩:=z;have hn:=(Rn.mp hw.nodup).1 _ (b5 hi);rw [h3] at hn;exact ⟨hl,vs,rs,h1,h2,by rw [au hi,h3],h4,h5,hn⟩
theorem xG:∀ {l k:Nat} {rows:List (List D)} {ds:List D} {a:Addr} {t:Tok} {value slice:Expr} {Q:ag->ah->Prop} (hw:Qn J W s) (h:W.H[l]? =some (.Qu rows)) (ha:W.as[l]? =some a) (hk:rows[k]? =some ds) (hq:∀ r ws rs,bS s.heap r ws->Qo J W.F W.as ds ws.toList->ds.length<=lim->W.QF[l]? =some (a::rs)->rs[k]? =some r->Q (.ref r) s),aD (aC P0 J.w) A (jh value slice (.ref a) (.int (k:Int) t)) Q (fun _ _=>False) s:=by iterate 14
 obtain ⟨hl,vs,rs,h1,h2,h3,h4,h5,hn⟩:=wd hw h ha;have RJ:k<rows.length:=(aj.mp hk).1;have hr:rs[k]? =some (rs[k]'(by omega)):=au (by omega);obtain ⟨hdl,ws,p,rd⟩:=h5 k ds _ hk hr;obtain ⟨ops,ho⟩:=jp slice (.ref a) (.int (k:Int) t);obtain ⟨o,n,e,c,d,dt⟩:=id h1;refine hO ⟨_,e,c⟩ dR.lookup ?_ ho;refine jf (x:= .ref (rs[k]'(by omega))) ⟨o,e,c,n,dt⟩ (az _) ?_ ?_ (hq _ _ _ p rd hdl h3 hr)
 ·have:(lim:Int)<2 ^ 63:=by decide
  omega
 ·rw [aP,<-eP,h2,b8,hr];rfl
theorem Am:∀ {e:Expr} {l:Nat} {i:Expr} (h:qk P0 sc st e=some (l,i)),∃ y yp p,e= .Subscript (.Name y yp) i p/\nameD P0 sc st y=some (.loc l)/\mt y=true:=by iterate 4
 replace h:=qI h;obtain ⟨⟨v,j⟩,h1,y,h2,h⟩:=h;obtain ⟨p,rfl⟩:=Cd h1;obtain ⟨yp,h2⟩:=rW h2;cases (show v=_ from h2);split at h
 ·rename_i hk;replace h:=qI h;obtain ⟨d,h3,l',h4,h⟩:=h;cases h;cases sS h4;exact ⟨y,yp,p,rfl,h3,hk⟩
 ·cases h
end
theorem sH:∀ {prog:bY} {w:jl} {A:bf} {E:ag->ah->Prop} {s:ah} {l:Addr} {items:Array ag} {k:Int} {t:Tok} {v:ag} {Q:Unit->ah->Prop} {o:Obj} {ne:Nat} (hl:s.heap.IsList l items) (ho:s.heap.get? l=some o) (hd:o.data= .seq items ne) (h0:0<=k) (VV:k<2 ^ 63) (hn:k<items.size) (hQ:Q () {s with heap:=s.heap.update l (iS fun x=>x.setIfInBounds k.toNat v)}),aD (aC prog w) A (setItem (.ref l) (.int k t) v) Q E s:=by iterate 20
 unfold setItem;try with_reducible refine bu ?_
 first | refine ae (ay ?_) | skip
 refine ae (wpAny_sequenceKey hl.typeIs (by decide) ?_);refine ae (dv (name:=bB "__setitem__") hl.typeIs nv
  (eh nv hl.typeIs entry_list_setitem ?_ (args_list_setitem _ _ _)))
 show aD _ _ (oF (.int k t) >>=_) _ _ s;refine ae (wpAny_listSubscript_int (fitsIndex_of h0 VV) ?_);clear VV;obtain ⟨j,rfl⟩:=eE h0;have hj:j<items.size:=by omega
 have hx':items[j]? =some items[j]:=cW hj;show aD _ _ ((seqItemAt l j >>=fun r=>pure (r.map (j,·))) >>=_) _ _ s;refine ae (ae (wpAny_seqItemAt ho hd (ay ?_)));rw [hx'];show aD _ _ (setSeqItemAt l j v >>=_) _ _ s;refine ae (wpAny_setSeqItemAt ho hd ?_);first
  | exact ae (ay (ay ⟨.none,rfl,ay hQ⟩))
  | exact ay ⟨.none,rfl,ay hQ⟩
section
variable {J:Cx} {A:bf} {W W0 W':Wd} {s s0 s':ah} {sc:aX} {st st':St} {env:Env} {ow UX:List Addr} {n:Nat} {B:Bs} {X:List Addr}
theorem yk:∀ {lo hi OQ:Option Expr} {p:Pos} {g:G} {r:D×G},ceE P0 n sc st (.Slice lo hi OQ p) g≠some r:=by iterate 6 intro h;cases n<;>cases h
theorem L7:∀ {i:Expr} {g:G} {q:D×G} (h:ceE P0 n sc st i g=some q),∀ ov iv new,augStore i ov iv new=(do lH [new,ov,iv] (setItem ov iv new);release [new,ov,iv] [];pure .next):=by iterate 4 intro ov iv new;cases i<;>first | rfl | exact absurd h yk
theorem tM:∀ {l:Addr} {items:Array ag} {k:Int} {t:Tok} {v:ag} {Q:Unit->ah->Prop} {E:ag->ah->Prop} (hp:bS s.heap l items) (h0:0<=k) (VV:k<2 ^ 63) (hn:k<items.size) (hQ:∀ h',bS h' l (items.setIfInBounds k.toNat v)->bW l s.heap h'->Q () {s with heap:=h'}),aD (aC P0 J.w) A (setItem (.ref l) (.int k t) v) Q E s:=by iterate 12
 obtain ⟨o,ne,ho,hc,hdn,hd⟩:=id hp;have hl:s.heap.IsList l items:=⟨o,ho,hc,ne,hd⟩
 refine sH hl ho hd h0 VV hn ?_;have:=ug (f:=fun x=>x.setIfInBounds k.toNat v) ho hc hdn hd;exact hQ _ this (eJ ..)
theorem Run.begin:∀ {x:Str} {o:OW} {ob:Obj} {tk:Nat} {g:G} (r:Run J W0 s0 B sc env st.freeze [] W s) (hg:W.H=g) (hx:pK sc x=true) (hn:Lake.Rq st x o=some st') (Tp:ob.isFreed=false) (ho:∀ h':Heap,h'.get? s.heap.objs.size=some ob->QN J W h' o s.heap.objs.size),aD (aC P0 J.w) A (gV env x (.ref s.heap.objs.size)) (fun _ s'=>qp J W0 s0 B sc env st' g .next .next s') (fun _ _=>False) {s with heap:=s.heap.push ob,toks:=tk}:=by iterate 11 obtain ⟨h1,rfl⟩:=Ai hn;have Rk:s.heap.get? s.heap.objs.size=none:=bn _;have t:=Qk.push (X:=[]) (tk:=tk) r.ok ob;have nn:=r.ok.QL Rk;have Qz:({s with heap:=s.heap.push ob,toks:=tk}:ah).heap.get? s.heap.objs.size=some ob:=ax _ Tp;refine af (Run.Rq (v:= .none) (r.expr t) wZ hx h1 ⟨nn.1,nn.2.1,nn.2.2,ob,Qz⟩ (fun hm=>r.QW Rk (aE _ hm)) (r.RH Rk) (r.tr.Qt Rk) (ho _ Qz)) (fun _ s' q=>?_) fun _ _ f=>f;exact ⟨W,hg,rfl,_,q⟩
theorem EI:∀ {x:Str} {xp pos:Pos} {es:List Expr} {lp:Pos} {g g1:G} {ds:List D} (fx:Fx J) (Qr:Ok J n) (hx:pK sc x=true) (h1:ceEs P0 n sc st.freeze es g=some (ds,g1)) (h2:ds.length<=lim) (h3:Rq st x (.lst ds)=some st') (hg:W.H=g) (r:Run J W0 s0 B sc env st ow W s) (hA:Qs n A),aD (aC P0 J.w) A (exec (.Assign [.Name x xp] (.List es lp) pos) env) (qp J W0 s0 B sc env st' g1 .next) (fun _ _=>False) s:=by iterate 17
 obtain ⟨W1,Q5,r1⟩:=r.freeze;refine bj (gU (Ex.into (Qr.es h1 (Q5.trans hg) r1.ok r1.R hA).2.2 fun vs W2 s2 k2 y0=>?_)) rfl;obtain ⟨RW,rv⟩:=y0;refine ⟨?_,?_⟩
 ·rw [rv.length];exact bw h2 pe
 ·exact Run.begin (tk:=s2.toks) (r1.expr k2) RW hx h3 rfl fun h' e=>⟨h2,vs.toArray,⟨_,_,e,rfl,rfl,rfl⟩,by simpa using rv⟩
theorem Lb:∀ {x:Str} {xp pos:Pos} {lp:Pos} {g:G} (fx:Fx J) (hx:pK sc x=true) (h3:Rq st x (.QC [])=some st') (hg:W.H=g) (r:Run J W0 s0 B sc env st ow W s),aD (aC P0 J.w) A (exec (.Assign [.Name x xp] (.Dict [] [] lp) pos) env) (qp J W0 s0 B sc env st' g .next) (fun _ _=>False) s:=by iterate 10
 obtain ⟨W1,Q5,r1⟩:=r.freeze;refine bj ?_ rfl;rw [eval_Dict_empty];refine ae (bt (dj ?_));refine Run.begin (tk:=s.toks) r1 (Q5.trans hg) hx h3 rfl fun h' e=>⟨by simp,?_,[],⟨_,_,_,e,⟨rfl,rfl,rfl⟩,rfl,fun e he=>by simp at he,.nil,by simp⟩,by dsimp only [RX]⟩
 obtain ⟨o,e⟩:=fx.WA;have e:=r1.ok.Qw _ _ e;have:s.heap.objs.size≠iB:=fun q=>by have z:=bn s.heap;rw [q,e] at z;cases z
 simpa using this
theorem JX:∀ {x:Str} {xp pos lp:Pos} {g:G} (hx:pK sc x=true) (Tz:oO st x=true) (hg:W.H=g) (r:Run J W0 s0 B sc env st ow W s),aD (aC P0 J.w) A (exec (.Assign [.Name x xp] (.List [] lp) pos) env) (qp J W0 s0 B sc env (st.withRho ((x,.loc g.length)::st.ρ)) (g++[.Qu []]) .next) (fun _ _=>False) s:=by iterate 9
 refine bj (gU ?_) rfl;refine aZ ⟨by simp,?_⟩;have Rk:s.heap.get? s.heap.objs.size=none:=bn _;have nn:=r.ok.QL Rk;have t:=Qk.push (X:=[]) (tk:=s.toks) r.ok {cls:= .type "list",data:= .seq ([]:List ag).toArray};have Qz:({s with heap:=s.heap.push {cls:= .type "list",data:= .seq ([]:List ag).toArray}}:ah).heap.get? s.heap.objs.size=some {cls:= .type "list",data:= .seq ([]:List ag).toArray}:=ax _ rfl;have t2:=t.Xs (mo:= .Qu []) (a:=s.heap.objs.size) (fp:=[s.heap.objs.size]) (by simp;exact ⟨⟨nn.1,nn.2.1,nn.2.2,_,Qz⟩,Rk⟩) (by simp) (by dsimp only [RF];exact ⟨by simp,#[],[],⟨_,_,Qz,rfl,rfl,rfl⟩,rfl,rfl,rfl,fun i ds r h=>by simp at h⟩);have rd:Rd J (⟨W.F,W.H++[.Qu []],W.as++[s.heap.objs.size],W.QF++[[s.heap.objs.size]]⟩:Wd).F (W.as++[s.heap.objs.size]) (.loc g.length) (.ref s.heap.objs.size):=by dsimp only [Rd];refine ⟨_,rfl,?_⟩;rw [<-hg,<-r.ok.Q9];simp
 refine af ((r.expr t2).store hx Tz rd) (fun _ s2 y1=>?_) fun _ _ f=>f;obtain ⟨_,r2⟩:=y1;refine ⟨_,?_,rfl,ow,r2⟩;show W.H++[.Qu []]=g++[.Qu []];rw [hg]
theorem DT:∀ {x:Str} {xp i1 pos:Pos} {i e:Expr} {g g1 g2:G} {Qx:List (Int×Int)} {v k:Int} (Qr:Ok J n) (ho:st.own=some (x,.QC Qx)) (hx:mt x=true) (hp:zA e=true) (h1:ceE P0 n sc st e g=some (.int v,g1)) (h2:ceE P0 n sc st i g1=some (.int k,g2)) (hl:Qx.length<lim) (hg:W.H=g) (r:Run J W0 s0 B sc env st ow W s) (hA:Qs n A),aD (aC P0 J.w) A (exec (.Assign [.Subscript (.Name x xp) i i1] e pos) env) (qp J W0 s0 B sc env (qg st x (.QC (put k v Qx))) g2 .next) (fun _ _=>False) s:=by iterate 22
 refine lQ (Ex.into (Qr.e h1 hg r.ok r.R hA) fun vv W1 s1 k1 z2=>?_) (Ac hp);obtain ⟨Q5,rv⟩:=z2;have r1:=r.expr k1;obtain ⟨_,a,rfl,S1,hv,_⟩:=r1.R.own _ _ ho;refine bq (db hv r1.R.kind hx ?_) (oJ hx).1;refine Ex.into (Qr.e h2 Q5 r1.ok r1.R hA) fun kv W2 s2 k2 z3=>?_;obtain ⟨RW,rk⟩:=z3;have r2:=r1.expr k2;obtain ⟨_,b,hb,_,Zx,S0⟩:=r2.R.own _ _ ho;cases hb;simp only [QN] at S0;obtain ⟨VQ,U8,ws,hd,hdk⟩:=S0;have rv:=rv.mono k2.le k2.as;dsimp only [Rd] at rv rk;obtain ⟨t1,rfl⟩:=rv;obtain ⟨t2,rfl⟩:=rk;have WX:(ws.map (·.1)).Nodup:=by obtain ⟨_,_,_,_,_,_,_,_,h⟩:=hd;exact h
 refine wpAny_setItem_pairs (knd:=IK J) (k:=k) (decide_eq_true rfl) hd (fun h' Vm sb=>?_) (by rw [hdk.length];have:=pe;omega);refine ⟨W2,RW,rfl,[a],r2.Sz ho sb ⟨?_,U8,_,Vm,Db hdk WX⟩⟩;have aak:∀ l:List (Int×Int),(put k v l).length<=l.length+1:=fun l=>by induction l with | nil=>(dsimp only [put];simp) | cons p r ih=>dsimp only [put];split<;>simp;exact ih
 have:=aak Qx;omega
theorem NE:∀ {x:Str} {xp pos:Pos} {op:iE} {e:Expr} {g g2:G} {a b d:D} (Qr:Ok J n) (h0:oO st x=true) (h0':pK sc x=true) (hx:mt x=true) (h1:nameD P0 sc st x=some a) (h2:ceE P0 n sc st e g=some (b,g2)) (h3:inop op a b=some d) (hg:W.H=g) (r:Run J W0 s0 B sc env st ow W s) (hA:Qs n A),aD (aC P0 J.w) A (exec (.AugAssign (.Name x xp) op e pos) env) (qp J W0 s0 B sc env (st.withRho ((x,d)::st.ρ)) g2 .next) (fun _ _=>False) s:=by iterate 20
 have hv:varD sc st x=some a:=by unfold nameD at h1;unfold varD;rcases xE h0' with q | q<;>(rw [q] at h1 ⊢;exact h1)
 obtain ⟨va,q1,q2⟩:=r.R.vars x a hv;refine mx (db q1 r.R.kind hx (Ex.into (Qr.e h2 hg r.ok r.R hA) fun vb W1 s1 k1 z4=>?_));obtain ⟨Q5,rb⟩:=z4;refine Ex.into (wQ (X:=[]) h3 (q2.mono k1.le k1.as) rb k1.ok) fun v W2 s2 k2 z5=>?_;obtain ⟨RW,rv⟩:=z5;exact af ((r.expr (k1.Qi k2)).store h0' h0 rv) (fun _ s3 z6=>by obtain ⟨_,r3⟩:=z6;exact ⟨W2,RW.trans Q5,rfl,ow,r3⟩) fun _ _ f=>f
theorem DH:∀ {x:Str} {xp i1 pos:Pos} {op:iE} {i e:Expr} {g g1 g2:G} {xs:List D} {k:Nat} {a b d:D} (Qr:Ok J n) (ho:st.own=some (x,.lst xs)) (hx:mt x=true) (h1:ceE P0 n sc st i g=some (.int (k:Int),g1)) (h2:xs[k]? =some a) (h3:ceE P0 n sc st e g1=some (b,g2)) (h4:inop op a b=some d) (hg:W.H=g) (r:Run J W0 s0 B sc env st ow W s) (hA:Qs n A),aD (aC P0 J.w) A (exec (.AugAssign (.Subscript (.Name x xp) i i1) op e pos) env) (qp J W0 s0 B sc env (qg st x (.lst (xs.set k d))) g2 .next) (fun _ _=>False) s:=by iterate 25
 obtain ⟨_,l,rfl,S1,hv,_⟩:=r.R.own _ _ ho;refine wpAny_AugAssign_SubscriptAny (bq (db hv r.R.kind hx ?_) (oJ hx).1) (L7 h1);refine Ex.into (Qr.e h1 hg r.ok r.R hA) fun kv W1 s1 k1 z7=>?_;obtain ⟨Q5,rk⟩:=z7;have r1:=r.expr k1;dsimp only [Rd] at rk;obtain ⟨tk,rfl⟩:=rk;obtain ⟨_,l',hb,_,_,S0⟩:=r1.R.own _ _ ho;cases hb;simp only [QN] at S0;obtain ⟨hl,vs,p,Zn⟩:=S0;obtain ⟨va,q1,q2⟩:=Zn.get h2;have RJ:k<xs.length:=(aj.mp h2).1;have YB:(k:Int)<2 ^ 63:=by
  have:(lim:Int)<2 ^ 63:=by decide
  omega
 obtain ⟨ob,n0,e0,c0,d0,ZY⟩:=id p;refine jf (x:=va) ⟨ob,e0,c0,n0,ZY⟩ (az _) YB (by rw [aP,<-eP];exact q1) ?_;refine Ex.into (Qr.e h3 Q5 r1.ok r1.R hA) fun vb W2 s2 k2 z8=>?_;obtain ⟨RW,rb⟩:=z8;refine Ex.into (wQ (X:=[]) h4 (q2.mono k2.le k2.as) rb k2.ok) fun v W3 s3 k3 z9=>?_;obtain ⟨Sf,rv⟩:=z9;have r3:=r1.expr (k2.Qi k3);obtain ⟨_,l',hb,_,_,S0⟩:=r3.R.own _ _ ho;cases hb;simp only [QN] at S0;obtain ⟨hl3,vs3,p3,X4⟩:=S0;have Rm:vs3.size=xs.length:=by rw [<-X4.length,bA]
 refine tM p3 (az _) YB (by omega) fun h' p' sb=>?_;refine ⟨W3,Sf.trans RW,rfl,[l],r3.Sz ho sb ⟨by simpa using hl3,_,p',?_⟩⟩;rw [aP];refine Qo.of_get (by simp [Rm]) fun i d' v' e1 e2=>?_;rw [Array.toList_setIfInBounds] at e2;rw [gq] at e1 e2;by_cases q:k=i
 ·subst q;rw [if_pos rfl] at e1 e2;split at e1
  ·split at e2
   ·cases e1;cases e2;exact rv
   ·cases e2
  ·rename_i q2;exact absurd RJ q2
 ·rw [if_neg q] at e1 e2;obtain ⟨v2,e3,e4⟩:=X4.get e1;rw [e3] at e2;cases e2;exact e4
theorem rq:∀ (r:Run J W0 s0 B sc env st ow W s),kA env=false:=by iterate 1 unfold kA;rw [r.R.kind];rfl
theorem ET:∀ {x:Str} {xp ap cp pos:Pos} {m:Str} {as:List Expr} {g g1:G} {xs ys ds:List D} (Qr:Ok J n) (ho:st.own=some (x,.lst xs)) (c1:(ap.endLine==cp.line)=true) (c2:as.length<30) (hx:mt x=true) (h1:ceEs P0 n sc st as g=some (ds,g1)) (h2:ownMeth m xs ds=some ys) (hg:W.H=g) (r:Run J W0 s0 B sc env st ow W s) (hA:Qs n A),aD (aC P0 J.w) A (exec (.Expr (.Call (.Attribute (.Name x xp) m ap) as [] cp) pos) env) (qp J W0 s0 B sc env (qg st x (.lst ys)) g1 .next) (fun _ _=>False) s:=by iterate 22
 obtain ⟨_,l,rfl,S1,hv,S0⟩:=r.R.own _ _ ho;have e1:=uU (env:=env) (pos:=cp) h1;refine dE ?_ (rq r) rfl;refine cA pR ?_ c1 rfl (bq (db hv r.R.kind hx ?_) (oJ hx).1)
 ·simp only [ai,decide_eq_true_eq];exact ⟨⟨qw e1,rfl⟩,by simpa using c2⟩
 ·have Tp:∃ o,s.heap.get? l=some o/\o.cls= .type "list" /\o.dict=none:=by
   simp only [QN] at S0;obtain ⟨_,vs,⟨o,n,e,c,d,_⟩,_⟩:=S0;exact ⟨o,e,c,d⟩
  obtain ⟨o,eo,co,dO⟩:=Tp;obtain ⟨id,f1,f2,f3⟩:=Hx (J:=J) h2;refine ⟨"list",id,cI,f1,f2,⟨o,eo,co⟩,fun b q=>by cases q;exact ⟨o,eo,dO⟩,?_⟩;refine ii e1 (Ex.into (Qr.es h1 hg r.ok r.R hA).2.2 fun vs W1 s1 k1 z0=>?_);obtain ⟨Q5,rv⟩:=z0;have r1:=r.expr k1;obtain ⟨_,l',hb,_,_,WW⟩:=r1.R.own _ _ ho;cases hb;refine af (f3 WW rv k1.ok) (fun v s2 z1=>?_) fun _ _ f=>f;obtain ⟨hv,h',tk,hs,sb,ho'⟩:=z1;subst hs;exact ⟨W1,Q5,rfl,[l],r1.Sz ho sb ho'⟩
theorem Mf:∀ {x:Str} {xp ap cp pos:Pos} {m:Str} {as:List Expr} {g g1 g2 g3:G} {ds:List D} {l:Nat} {d:D} (Qr:Ok J n) (lx:Lx J n) (c1:(ap.endLine==cp.line)=true) (c2:as.length<30) (h0:ceE P0 n sc st (.Name x xp) g=some (.loc l,g1)) (h1:ceEs P0 n sc st as g1=some (ds,g2)) (h2:methD m (.loc l) ds g2=some (d,g3)) (clv:Ki m<=n) (hk:g1[l]?.map kindOf=g2[l]?.map kindOf) (hg:W.H=g) (r:Run J W0 s0 B sc env st ow W s) (QY:Qs (n+1) A),aD (aC P0 J.w) A (exec (.Expr (.Call (.Attribute (.Name x xp) m ap) as [] cp) pos) env) (qp J W0 s0 B sc env st g3 .next) (fun _ _=>False) s:=by iterate 26 have hA:Qs n A:=QY.le (bV n);refine dE ?_ (rq r) rfl;rw [jj,pR];refine ae (Ex.into (Qr.e h0 hg r.ok r.R hA) fun va W1 s1 k1 y0=>?_);obtain ⟨Q5,ra⟩:=y0;refine ae (bt ?_);obtain ⟨e1,e2,e3⟩:=Qr.es (pos:=cp) h1 Q5 k1.ok (r.R.QB k1) hA;exact Ex.into (lx.S9 h2 clv (by subst Q5;exact hk) ra k1.ok (QY.le (by omega)) e1 (by simpa using c2) c1 e3) fun v W2 s2 k2 r2=>⟨W2,r2.1,rfl,ow,r.expr (k1.Qi k2)⟩
theorem Fu:∀ {x:Str} {xp:Pos} {g g1:G} {d:D} (h:ceE P0 n sc st (.Name x xp) g=some (d,g1)),mt x=true/\nameD P0 sc st x=some d/\g1=g:=by iterate 6 cases n with | zero=>cases h | succ n=>obtain ⟨u,h1,d',h2,h3⟩:=qI h;cases h3;exact ⟨dl h1,h2,rfl⟩
theorem FY:∀ {x:Str} {xp ap cp pos lp:Pos} {g g1:G} {l:Nat} {rows:List (List D)} (Qr:Ok J n) (c1:(ap.endLine==cp.line)=true) (h0:ceE P0 n sc st (.Name x xp) g=some (.loc l,g1)) (h1:g1[l]? =some (.Qu rows)) (h2:rows.length<lim) (hg:W.H=g) (r:Run J W0 s0 B sc env st ow W s) (hA:Qs n A),aD (aC P0 J.w) A (exec (.Expr (.Call (.Attribute (.Name x xp) "append" ap) [.List [] lp] [] cp) pos) env) (qp J W0 s0 B sc env st (g1.set l (.Qu (rows++[[]]))) .next) (fun _ _=>False) s:=by iterate 18
 refine dE ?_ (rq r) rfl;refine cA pR ?_ c1 rfl (Ex.into (Qr.e h0 hg r.ok r.R hA) fun va W1 s1 k1 ⟨Q5,ra⟩=>?_)
 ·rfl
 ·dsimp only [Rd] at ra;obtain ⟨a,rfl,ha⟩:=ra;have r1:=r.expr k1;subst Q5;obtain ⟨hl,vs,rs,p,q2,q3,q4,q5,q6⟩:=wd k1.ok h1 ha;obtain ⟨o,n0,eo,co,dO,dt⟩:=id p;refine ⟨"list","list.append",cI,fG,fE,⟨o,eo,co⟩,fun b q=>by cases q;exact ⟨o,eo,dO⟩,?_⟩;refine ii rfl ?_;refine aR (gU (aZ ⟨by simp,?_⟩)) rfl;refine aZ ?_;have Rk:s1.heap.get? s1.heap.objs.size=none:=bn _;have Rl:a≠s1.heap.objs.size:=fun q=>by rw [q,Rk] at eo;cases eo
  have p1:bS (s1.heap.push {cls:= .type "list",data:= .seq ([]:List ag).toArray}) a vs:=bS.keep p fun o e=>aF _ e;have Rm:vs.size=rows.length:=by rw [<-bA,q2,aG,q4]
  refine af (tW (x:= .ref s1.heap.objs.size) p1 (by omega)) (fun v s2 z4=>?_) fun _ _ f=>f;obtain ⟨hv,h',tk,hs,sb,p'⟩:=z4;subst hs;have Qz:(s1.heap.push {cls:= .type "list",data:= .seq ([]:List ag).toArray}).get? s1.heap.objs.size=some {cls:= .type "list",data:= .seq ([]:List ag).toArray}:=ax _ rfl;have kk:∀ b o,b≠a->s1.heap.get? b=some o->h'.get? b=some o:=fun b o hb e=>(sb.2 b hb).trans (aF _ e);have rn:∀ i r,rs[i]? =some r->r≠a:=fun i r hr q=>by rw [cB] at q6;exact q6.1 (q▸bL hr)
  have vL:∀ b∈a::rs,∃ o,s1.heap.get? b=some o:=fun b hb=>(k1.ok.RD b (qK q3 hb)).2.2;have g2:=Qk.Vv (X:=[]) (tk:=tk) (mo':= .Qu (rows++[[]])) (fp':=a::(rs++[s1.heap.objs.size])) (h':=h') k1.ok ha q3
   (fun b o hb e=>kk b o (fun q=>hb (by simp [q])) e)
   (fun b hb=>by
    by_cases q:b=a
    ·subst q;obtain ⟨o,_,e,_⟩:=p';exact ⟨o,e⟩
    ·obtain ⟨o,e⟩:=vL b hb;exact ⟨o,kk b o q e⟩)
   (by
    dsimp only [RF];refine ⟨by simp;omega,_,rs++[s1.heap.objs.size],p',?_,rfl,by simp [q4],fun i ds r e1 e2=>?_⟩
    ·rw [gh,q2];simp
    ·by_cases hi:i<rows.length
     ·rw [bg hi] at e1;rw [bg (by omega)] at e2;obtain ⟨z1,ws,z2,z3⟩:=q5 i ds r e1 e2;exact ⟨z1,ws,bS.keep z2 fun o e=>kk _ _ (rn i r e2) e,z3⟩
     ·have YD:i=rows.length:=by
       have:=(aj.mp e1).1;simp at this;omega
      subst YD;rw [aT (bN _)] at e1;rw [aT (by omega),q4] at e2;simp at e1 e2;subst e1;subst e2;refine ⟨by simp,#[],⟨_,_,(sb.2 _ (dz Rl)).trans Qz,rfl,rfl,rfl⟩,by dsimp only [Qo]⟩)
   (fun b hb=>by
    rcases aq.mp hb with rfl | hb
    ·exact .inl (by simp)
    ·rcases bF.mp hb with hb | hb
     ·exact .inl (av _ hb)
     ·simp at hb;subst hb;exact .inr Rk)
   (by
    rw [cB] at q6 ⊢;refine ⟨fun hm=>?_,?_⟩
    ·rcases bF.mp hm with hm | hm
     ·exact q6.1 hm
     ·simp at hm;exact Rl hm
    ·rw [gn];refine ⟨q6.2,by simp,fun x hx y hy=>?_⟩;simp at hy;subst hy;rintro rfl;obtain ⟨o,e⟩:=vL _ (av _ hx);rw [Rk] at e;cases e)
  exact ⟨_,rfl,rfl,ow,r1.expr g2⟩
theorem B3:∀ {pos:Pos} {E:ag->ah->Prop} {es:List Expr} (fx:Fx J) (hw:Qn J W s) (R:Ql J W s.heap sc st env ow),∀ {ds:List D},vU P0 sc st es=some ds->aD (aC P0 J.w) A (eM (kC pos (eL es env))) (fun vs s'=>s'=s/\Qo J W.F W.as ds vs) E s:=by iterate 6
 induction es with
 | nil=>intro ds h;cases h;exact aZ ⟨rfl,rfl⟩
 | cons e es ih=>intro ds h;replace h:=zW h;obtain ⟨x,h0,u,h1,d,h2,ZZ,h3,h4⟩:=h;cases h4;obtain ⟨p,rfl⟩:=rW h0;refine aR (af (vV fx h2 (dl h1) hw R) (fun v s1 q=>?_) fun _ _ f=>f) rfl;rw [q.1];exact af (ih h3) (fun vs s2 p=>⟨p.1,v,vs,rfl,q.2,p.2⟩) fun _ _ f=>f
theorem Fo:∀ {t:Str} {tp ap cp pos ip lp:Pos} {i:Expr} {es:List Expr} {g g1 g2:G} {l k:Nat} {rows:List (List D)} {xs ys:List D} (fx:Fx J) (Qr:Ok J n) (c1:(ap.endLine==cp.line)=true) (h0:ceE P0 n sc st (.Name t tp) g=some (.loc l,g1)) (h1:ceE P0 n sc st i g1=some (.int (k:Int),g2)) (h2:vU P0 sc st es=some ys) (h3:g2[l]? =some (.Qu rows)) (h4:rows[k]? =some xs) (h5:(xs++ys).length<=lim) (hg:W.H=g) (r:Run J W0 s0 B sc env st ow W s) (hA:Qs n A),aD (aC P0 J.w) A (exec (.Expr (.Call (.Attribute (.Subscript (.Name t tp) i ip) "extend" ap) [.List es lp] [] cp) pos) env) (qp J W0 s0 B sc env st (g2.set l (.Qu (rows.set k (xs++ys)))) .next) (fun _ _=>False) s:=by iterate 29
 refine dE ?_ (rq r) rfl;refine cA rfl rfl c1 rfl (jH (Ex.into (Qr.e h0 hg r.ok r.R hA) fun va W1 s1 k1 y0=>?_));obtain ⟨Q5,ra⟩:=y0;refine Ex.into (Qr.e h1 Q5 k1.ok (r.R.QB k1) hA) fun vi W2 s2 k2 z1=>?_;obtain ⟨RW,ri⟩:=z1;have r2:=r.expr (k1.Qi k2);have ra:=ra.mono k2.le k2.as;dsimp only [Rd] at ra ri;obtain ⟨a,rfl,ha⟩:=ra;obtain ⟨ti,rfl⟩:=ri;subst RW;refine xG k2.ok h3 ha h4 fun rA ws rs p rws Zv q3 hr=>?_;obtain ⟨hl,vs,SN,pT,q2,q3',q4,q5,q6⟩:=wd k2.ok h3 ha;have:SN=rs:=by rw [q3] at q3';cases q3';rfl
 subst this;obtain ⟨o,n0,eo,co,dO,dt⟩:=id p;refine ⟨"list","list.extend",cI,fF,jx,⟨o,eo,co⟩,fun b q=>by cases q;exact ⟨o,eo,dO⟩,?_⟩;refine ii rfl ?_;refine aR (gU (af (B3 fx k2.ok r2.R h2) (fun Ww s3 y1=>?_) fun _ _ f=>f)) rfl;obtain ⟨hs,rys⟩:=y1;refine ⟨?_,?_⟩
 ·rw [rys.length];rw [aw] at h5;have:=pe;omega
 ·subst hs;refine aZ ?_;have Rk:s3.heap.get? s3.heap.objs.size=none:=bn _;have Rl:rA≠s3.heap.objs.size:=fun q=>by rw [q,Rk] at eo;cases eo
  have p1:bS (s3.heap.push {cls:= .type "list",data:= .seq Ww.toArray}) rA ws:=bS.keep p fun o e=>aF _ e;have Qz:(s3.heap.push {cls:= .type "list",data:= .seq Ww.toArray}).get? s3.heap.objs.size=some {cls:= .type "list",data:= .seq Ww.toArray}:=ax _ rfl;have Zw:ws.size=xs.length:=by rw [<-rws.length,bA]
  have hyl:=rys.length;refine af (wu (s:={s3 with heap:=s3.heap.push {cls:= .type "list",data:= .seq Ww.toArray}}) (ws:=Ww.toArray) p1 Qz rfl rfl (by rw [aw] at h5;simp;omega)) (fun v s4 z3=>?_) fun _ _ f=>f;obtain ⟨hv,h',tk,hs,sb,p'⟩:=z3;subst hs;have kk:∀ b o,b≠rA->s3.heap.get? b=some o->h'.get? b=some o:=fun b o hb e=>(sb.2 b hb).trans (aF _ e);have hrA:rA∈SN:=bL hr;rw [cB] at q6;have aA:a≠rA:=fun q=>q6.1 (q▸hrA);have g2:=Qk.Vv (X:=[]) (tk:=tk) (mo':= .Qu (rows.set k (xs++ys))) (fp':=a::SN) (h':=h') k2.ok ha q3
   (fun b o hb e=>kk b o (fun q=>hb (av _ (q▸hrA))) e)
   (fun b hb=>by
    by_cases q:b=rA
    ·subst q;obtain ⟨o,_,e,_⟩:=p';exact ⟨o,e⟩
    ·obtain ⟨o,e⟩:=(k2.ok.RD b (qK q3 hb)).2.2;exact ⟨o,kk b o q e⟩)
   (by
    dsimp only [RF];refine ⟨by simpa using hl,_,SN,bS.keep pT fun o e=>kk _ _ aA e,q2,rfl,by simpa using q4,fun j ds r e1 e2=>?_⟩;rw [gq] at e1;by_cases hj:k=j
    ·subst hj;rw [if_pos rfl] at e1;split at e1
     ·cases e1;rw [hr] at e2;cases e2;exact ⟨h5,_,p',by simpa using rws.append rys⟩
     ·cases e1
    ·rw [if_neg hj] at e1;obtain ⟨z1,us,z2,z3⟩:=q5 j ds r e1 e2;refine ⟨z1,us,bS.keep z2 fun o e=>kk _ _ (fun q=>hj ?_) e,z3⟩;subst q;obtain ⟨hj1,e3⟩:=aj.mp e2;obtain ⟨Ss,e4⟩:=aj.mp hr;have nd:=q6.2;unfold List.Nodup at nd;rw [fW] at nd;rcases Nat.lt_trichotomy k j with z | z | z
     ·exact absurd (e4.trans e3.symm) (nd k j Ss hj1 z)
     ·exact z
     ·exact absurd (e3.trans e4.symm) (nd j k hj1 Ss z))
   (fun b hb=> .inl hb)
   (cB.mpr q6)
  exact ⟨_,rfl,rfl,ow,r2.expr g2⟩
theorem Oo:∀ {ts:List Expr} {k0:Nat} {tp pos yp ip:Pos} {y:Str} {i:Expr} {g g1:G} {l k:Nat} {rows:List (List D)} {ds:List D} {ρ:Qm} (Qr:Ok J n) (fx:Fx J) (hy:nameD P0 sc st y=some (.loc l)) (hy':mt y=true) (h1:pX sc st (.Tuple ts k0 tp)=true) (h2:ceE P0 n sc st i g=some (.int (k:Int),g1)) (h3:g1[l]? =some (.Qu rows)) (h4:rows[k]? =some ds) (h5:zb ts ds st.ρ=some ρ) (hg:W.H=g) (r:Run J W0 s0 B sc env st ow W s) (hA:Qs n A),aD (aC P0 J.w) A (exec (.Assign [.Tuple ts k0 tp] (.Subscript (.Name y yp) i ip) pos) env) (qp J W0 s0 B sc env (st.withRho ρ) g1 .next) (fun _ _=>False) s:=by iterate 27
 have hf:=uW (env:=env) h1;obtain ⟨xps,rfl,hl,rfl⟩:=w9 h5;rw [qR] at hf;refine Assign_Tuple (jH (af (vV fx hy hy' r.ok r.R) (fun va s1 z4=>?_) fun _ _ f=>f)) tH rfl;obtain ⟨hs,ra⟩:=z4;subst hs;refine Ex.into (Qr.e h2 hg r.ok r.R hA) fun vi W2 s2 k2 z5=>?_;obtain ⟨RW,ri⟩:=z5;have r2:=r.expr k2;have ra:=ra.mono k2.le k2.as;dsimp only [Rd] at ra ri;obtain ⟨a,rfl,ha⟩:=ra;obtain ⟨ti,rfl⟩:=ri;subst RW;refine xG k2.ok h3 ha h4 fun rA ws rs p rws Zv q3 hr=>?_;rw [nQ];refine ae (bt ?_);unfold unpack;rw [su];have Rz:(xps.map fun p=>(false,assign (.Name p.1 p.2) env)).findIdx? (·.1)=none:=by rw [jZ];intro x hx;obtain ⟨p,_,rfl⟩:=aH.mp hx;rfl
 rw [Rz];obtain ⟨o,n0,eo,co,dO,dt⟩:=id p;have Zw:(xps.map fun p=>(false,assign (.Name p.1 p.2) env)).length=ws.size:=by rw [aG,hl,<-rws.length,bA]
 rw [Zw];refine ae (bu (sE hA.1 ⟨o,eo,co,n0,dt⟩ fun h' e=>?_));have k3:=k2.ok.SJ (tk:=s2.toks) e;have r3:=r2.expr k3;refine af (tE (Y:=am env) (xs:=xps.map (·.1)) (ds:=ds) (st:=st) (fun i f x a b v Q E s q=>?_) (by simp) (by simpa using hl) rws hf.1 r3.R r3.ok) (fun _ s4 ⟨k4,R4⟩=>?_) fun _ _ f=>f
 ·simp only [b7,b8,ba] at a b;obtain ⟨q1,e1,rfl⟩:=a;obtain ⟨q2,e2,rfl⟩:=b;rw [e1] at e2;cases e2;exact cQ q
 ·exact ⟨W2,rfl,rfl,ow,r3.S6 k4 (fun a ha=> .inl ha) R4⟩
theorem L0:∀ (fx:Fx J) (lx:Lx J n) (Qr:Ok J n) (ok:TJ J n) (gen:pJ J n),∀ {sc st x g fl st' g' env ow A W0 s0 B W s},ceS P0 (n+1) sc st x g=some (fl,st',g')->W.H=g->Run J W0 s0 B sc env st ow W s->Qs (n+1) A->aD (aC P0 J.w) A (exec x env) (qp J W0 s0 B sc env st' g' fl) (fun _ _=>False) s:=by iterate 5
 intro sc st x g fl st' g' env ow A W0 s0 B W s h hg r QY;have hA:Qs n A:=QY.le (bV n);replace h:Ku P0 (fs P0 n) sc st n g (sv x)=some (fl,st',g'):=h;generalize sv x=v at h;cases v with
 | ret e p=>replace h:=bi h;obtain ⟨⟨d,g1⟩,h1,h2⟩:=h;cases h2;obtain ⟨W1,Q5,r1⟩:=r.freeze;exact cm (Ex.into (Qr.e h1 (Q5.trans hg) r1.ok r1.R hA) fun v W2 s2 k2 p2=>⟨W2,p2.1,v,rfl,p2.2,(r1.expr k2).tr⟩)
 | if_ t b o p=>
  replace h:=bi h;obtain ⟨⟨c,g1⟩,h1,h2⟩:=h;refine fC (Ex.into (Qr.t h1 hg r.ok r.R hA) fun b W1 s1 k1 p1=>?_);cases p1.1;have r1:=r.expr k1;split at h2
  ·rename_i hb;rw [if_pos hb];exact ok.ss h2 p1.2 r1 hA
  ·rename_i hb;rw [if_neg hb];exact ok.ss h2 p1.2 r1 hA
 | Rg t b p=>exact wpAny_While (cP (ok.Rg h hg r hA) fun r' s' z0=>by obtain ⟨f,hr,h⟩:=z0;subst hr;exact h)
 | Sg t it b p=>exact NL fx Qr ok gen h hg r hA
 | asg x xp e pos=>
  replace h:sY (fs P0 n) sc st x e g=some (fl,st',g'):=h;unfold sY at h;cases hl:tG e with
  | some es=>
   rw [hl] at h;dsimp only at h;obtain ⟨lp,rfl⟩:=wK hl;split at h
   ·rename_i hn;have hn:=BV (bx.mp hn).1;replace h:=bi h;obtain ⟨u,h1,h2⟩:=h;cases h2;have h1:=bx.mp (dl h1);cases hn;exact JX h1.2 h1.1 hg r
   ·replace h:=zW h;obtain ⟨u,h1,⟨ds,g1⟩,h2,u',h3,QU,h4,h5⟩:=h;cases h5;exact EI fx Qr (dl h1) h2 (of_decide_eq_true (dl h3)) h4 hg r hA
  | none=>
   rw [hl] at h;dsimp only at h;split at h
   ·rename_i hd;obtain ⟨p,rfl⟩:=Ae hd;replace h:=qI h;obtain ⟨u,h1,QU,h2,h3⟩:=h;cases h3;exact Lb fx (dl h1) h2 hg r
   ·cases hq:(q7 (oO st x&&pK sc x)).bind fun _=>(fs P0 n).e sc st e g with | some y=>rw [hq] at h;cases h;obtain ⟨u,h1,h2⟩:=bi hq;have h1:=bx.mp (dl h1);exact wH Qr h2 hg r hA h1.2 h1.1 | none=>rw [hq] at h;replace h:=qI h;obtain ⟨u,h1,⟨d,g1⟩,h2,h3⟩:=h;cases h3;obtain ⟨W1,Q5,r1⟩:=r.freeze;exact wH Qr h2 (Q5.trans hg) r1 hA (dl h1) (by unfold oO;rw [wZ])
 | Zc ts k tp e pos=>replace h:(match qk P0 sc st e with | some q=>_ | none=>_)=some (fl,st',g'):=h;cases hr:qk P0 sc st e with | some q=>rw [hr] at h;obtain ⟨y,yp,p,rfl,hy,hy'⟩:=Am (show qk P0 sc st e=some (q.1,q.2) from hr);replace h:=vq h;obtain ⟨u,h1,⟨d,g1⟩,h2,k',h3,h⟩:=h;replace h:=zW h;obtain ⟨o,h4,rows,h5,ds,h6,ρ,h7,h8⟩:=h;cases h8;cases (show d=_ from qx h3);cases rN h5;exact Oo Qr fx hy hy' (dl h1) h2 h4 h6 h7 hg r hA | none=>rw [hr] at h;replace h:=vq h;obtain ⟨u,h1,⟨d,g1⟩,h2,ρ,h3,h4⟩:=h;cases h4;have h1:=bx.mp (dl h1);exact Ic Qr h1.1 h1.2 h2 h3 hg r hA
 | X3 x xp i ip e pos=>replace h:=vq h;obtain ⟨Qx,h1,u,h2,⟨d,g1⟩,h3,h⟩:=h;replace h:=zW h;obtain ⟨⟨k,g2⟩,h4,v',h5,k',h6,u',h7,h8⟩:=h;cases h8;have h2:=bx.mp (dl h2);cases (show d=_ from be h5);cases (show k=_ from be h6);exact DT Qr (ww h1) h2.1 h2.2 h3 h4 (of_decide_eq_true (dl h7)) hg r hA
 | aug x xp op e pos=>replace h:=zW h;obtain ⟨u,h1,⟨a,g1⟩,h2,⟨b,g2⟩,h3,d,h4,h5⟩:=h;cases h5;have h1:=bx.mp (dl h1);obtain ⟨q1,q2,rfl⟩:=Fu h2;exact NE Qr h1.1 h1.2 q1 q2 h3 h4 hg r hA
 | Zb x xp i ip op e pos=>replace h:=vq h;obtain ⟨xs,h1,u,h2,⟨k,g1⟩,h3,h⟩:=h;replace h:=zW h;obtain ⟨k',h4,a,h5,⟨b,g2⟩,h6,d,h7,h8⟩:=h;cases h8;cases (show k=_ from qx h4);exact DH Qr (wG h1) (dl h2) h3 h5 h6 h7 hg r hA
 | S9 x xp m ap as cp pos=>
  replace h:qj (fs P0 n) sc st n x xp m ap as cp g=some (fl,st',g'):=h;unfold qj at h;cases ho:tV st x with
  | some xs=>rw [ho] at h;replace h:=vq h;obtain ⟨u,h1,⟨ds,g1⟩,h2,ys,h3,h4⟩:=h;cases h4;have h1:=dl h1;simp only [ai] at h1;exact ET Qr (wG ho) h1.1.1 (of_decide_eq_true h1.1.2) h1.2 h2 h3 hg r hA
  | none=>
   rw [ho] at h;replace h:=vq h;obtain ⟨u,h1,⟨d,g1⟩,h2,l,h3,h4⟩:=h;have h1:=dl h1;simp only [ai] at h1;cases (show d=_ from sS h3);split at h4
   ·rename_i hm;cases eq_of_beq hm;replace h4:=vq h4;obtain ⟨a,q1,es,q2,_,q3,h4⟩:=h4;replace h4:=vq h4;obtain ⟨o,h5,rows,h6,u',h7,h8⟩:=h4;cases h8;cases rN h6;cases oU q3;cases oS q1;obtain ⟨lp,rfl⟩:=wK q2;exact FY Qr h1.1.1 h2 h5 (of_decide_eq_true (dl h7)) hg r hA
   ·replace h4:=zW h4;obtain ⟨u',h5,⟨ds,g2⟩,h6,u2,h9,⟨d,g3⟩,h7,h8⟩:=h4;cases h8;exact Mf Qr lx h1.1.1 (of_decide_eq_true h1.1.2) h2 h6 h7 (of_decide_eq_true h1.2) (eq_of_beq (dl h9)) hg r QY
 | ext t tp i ip m ap es lp cp pos=>replace h:=zW h;obtain ⟨u,h1,⟨d,g1⟩,h2,l,h3,⟨k,g2⟩,h4,h⟩:=h;replace h:=zW h;obtain ⟨k',h5,ys,h6,o,h7,rows,h8,h⟩:=h;replace h:=qI h;obtain ⟨xs,h9,u',h10,h11⟩:=h;cases h11;have h1:=bx.mp (dl h1);cases eq_of_beq h1.1;cases (show d=_ from sS h3);cases (show k=_ from qx h5);cases rN h8;exact Fo fx Qr h1.2 h2 h4 h6 h7 h9 (of_decide_eq_true (dl h10)) hg r hA
 | other s=>cases h
theorem E4:∀ (fx:Fx J) (lx:Lx J n) (Qr:Ok J n) (ok:TJ J n) (gen:pJ J n),TJ J (n+1):=by iterate 5
 exact {
  ss:=Js ok
  s_:=L0 fx lx Qr ok gen
  Rg:=BA Qr ok
  Sg:=HN ok}
end
structure Sp (J:Cx) (n:Nat):Prop where
 sp:∀ {f h ds g d g'},special f=some h->h ds g=some (d,g')->30<=n->∃ fv,pN J f fv/\∀ {A W s vs},Qs n A->W.H=g->Qo J W.F W.as ds vs->Qn J W s->Ex J A (call fv vs) [] W s (li J d g')
section
variable {J:Cx} {A:bf} {W:Wd} {s:ah} {n:Nat}
theorem Qs.deeper:∀ {env:Env} (h:Qs (n+1) A),Qs n (A.deeper env):=by iterate 2 exact (⟨h.1,by have:=h.2.1;show A.depth+1+n+60<_;omega,by have:=h.2.2;show A.units+3+8 * n+400<mj;omega⟩)
theorem Qv.at:∀ {F:PM} {cd:ag} {q:Str} {h:Heap} (x:Qv F cd q) (k:∀ a o,F a=some o->h.get? a=some o),h.CodeRec cd q:=by iterate 6 exact ((by obtain ⟨c,o,vs,t,e,g,r⟩:=x;exact ⟨c,o,vs,t,e,k _ _ g,r⟩))
theorem ud:∀ {f:Str} {fn:Fn} {a:Addr} {mg mb:Str->Option ag} (h1:Ud (F0 J) bC mg) (h2:Ud (F0 J) bU mb) (h3:mg f=some (.ref a)) (h4:FnAt J (F0 J) a fn),pN J f (.ref a):=by iterate 9 refine ⟨⟨mg,mb,h1,h2,.inl h3⟩,fun h hl=>?_⟩;obtain ⟨o,fd,e,hd,_⟩:=h4.obj;have:=hl a o e;obtain ⟨oc,od,dt,sl⟩:=o;dsimp only at hd;subst hd;exact cX h ⟨oc,od,fd,sl,this⟩
theorem vd:∀ {fn:Fn} {a:Addr} {ds:List D} {vs:List ag} {R:iy->ah->Prop} (fx:Fx J) (Qz:FnAt J (F0 J) a fn) (hl:fn.params.length=ds.length) (hA:A.depth<cw) (hd:Qo J W.F W.as ds vs) (hw:Qn J W s) (h:∀ env Qg,Run J W s ⟨W,Qg,[]⟩ fn.scope env ⟨fn.params.zip ds,[],none⟩ [] W Qg->(∃ o fd,F0 J a=some o/\o.data= .func fd/\env=fc fd s.heap.objs.size a)->aD (aC P0 J.w) (A.deeper env) (gg fn.body env) (fun f s'=>R (.ok (.ret (match f with | .ret v=>v | _=> .none))) s') (fun _ _=>False) Qg),bQ (aC P0 J.w) A (.call (.ref a) ⟨vs,[]⟩) R s:=by iterate 12
 obtain ⟨o,fd,e,ZM,YO,U9,aa6,Tg,VY,RC,YP⟩:=Qz.obj;have Wn:=Qz.good;have Vi:=Wn;simp only [wl,ai] at Vi;obtain ⟨⟨⟨⟨⟨⟨k1,k2⟩,k3⟩,k4⟩,k5⟩,k7⟩,k6⟩:=Vi;refine codeAny_call_cells hA (hw.Qw a o e) ZM ?_ (RC.at hw.Qw) YO (YP vs (by rw [hl,<-hd.length])) Tg ?_ (fun Qg x=>?_) (by rw [U9];simpa using k2) (by rw [U9];simpa using k3) (by rw [U9];simpa using k1)
 ·obtain ⟨mc,q1,q2⟩:=fx.SD;exact ⟨mc,q1.ns hw.Qw,q2⟩
 ·intro y hy;have hy1:y.1∈fn.params:=(hE hy).1;have:=ak.mp k4 _ hy1;rw [U9];rcases xE this with q | q
  ·exact .inl q
  ·exact .inr ⟨q,sm _ _ _ (.inl (al q))⟩
 ·obtain ⟨t1,t2,t3⟩:=G0 hw hd hl Wn U9 aa6 VY x;exact af (h _ Qg (Run.start hw t1 t2 t3 (fun a h=>by cases h)) ⟨o,fd,e,ZM,rfl⟩) (fun f s' q=>q) fun _ _ q=>q.elim
theorem sr:∀ {fn:Fn} {a:Addr} {ds:List D} {vs:List ag} {Q:ag->ah->Prop} (fx:Fx J) (Qz:FnAt J (F0 J) a fn) (hl:fn.params.length=ds.length) (hA:A.depth<cw) (hd:Qo J W.F W.as ds vs) (hw:Qn J W s) (h:∀ env Qg,Run J W s ⟨W,Qg,[]⟩ fn.scope env ⟨fn.params.zip ds,[],none⟩ [] W Qg->aD (aC P0 J.w) (A.deeper env) (gg fn.body env) (fun f s'=>Q (match f with | .ret v=>v | _=> .none) s') (fun _ _=>False) Qg),aD (aC P0 J.w) A (call (.ref a) vs) Q (fun _ _=>False) s:=by iterate 12 exact (eV (vd fx Qz hl hA hd hw fun env Qg r _=>h env Qg r))
theorem D5:∀ (fx:Fx J) (sp:Sp J n) (ok:TJ J n),wo J (n+1):=by iterate 3
 intro f ds g d g' h;replace h:rz P0 (fs P0 n) n f ds g=some (d,g'):=h;unfold rz at h;cases e:special f with
 | some hh=>rw [e] at h;replace h:=bi h;obtain ⟨u,hc,h⟩:=h;obtain ⟨fv,h1,h2⟩:=sp.sp e h (of_decide_eq_true (dl hc));exact ⟨fv,h1,fun hA=>h2 (hA.le (bV n))⟩
 | none=>rw [e] at h;replace h:=zW h;obtain ⟨fn,hf,u,hc,⟨fl,st',g1⟩,hb,d1,h,h'⟩:=h;cases h';have hc:=bx.mp (dl hc);obtain ⟨mg,mb,V3,g2,_,_,_,_,_,_,_,_,_,gf⟩:=fx.glob;obtain ⟨a,ha,Qz⟩:=gf f fn hf;have Qz:=Qz (by simpa using hc.2);refine ⟨.ref a,ud V3 g2 ha Qz,fun {A W s vs} hA hg hd hw=>?_⟩;refine sr fx Qz (eq_of_beq hc.1) (by have:=hA.2.1;omega) hd hw fun env Qg R=>?_;refine af (ok.ss hb hg R hA.deeper) (fun f s' q=>?_) fun _ _ q=>q.elim;obtain ⟨W',ZJ,q⟩:=q;cases fl with | next=>cases h | ret d'=>cases h;obtain ⟨v,rfl,rv,tr⟩:=q;exact ⟨W',tr,ZJ,rv⟩
theorem zX:∀ (fx:Fx J) (gen:∀ n,TJ J n->pJ J (n+1)) (TG:pJ J 0),∀ n,(∀ m<n,Lx J m/\Sp J m)->Ok J n/\TJ J n/\wo J n/\pJ J n:=by iterate 3
 intro n;induction n with
 | zero=>exact fun _=>⟨IA,FE,(fun h=>by cases h),TG⟩
 | succ n ih=>intro lx;obtain ⟨a,b,c,d⟩:=ih fun m hm=>lx m (iT hm);obtain ⟨l,sp⟩:=lx n (jq n);exact ⟨H6 fx l a c,E4 fx l a b d,D5 fx sp b,gen n b⟩
end
section
variable {J:Cx} {A:bf} {W:Wd} {s:ah} {n:Nat} {X:List Addr}
theorem uY:∀ {f:Str} {v:ag} (hv:lG v=pure .machine) (h:S2 J f v),pN J f v:=by iterate 4 exact (⟨h,fun _ _=>⟨.machine,.inr (.inl rfl),by rw [hv];exact .now⟩⟩)
theorem px:∀ {f:Str} (fx:Fx J) (hf:f∈QM),pN J f (.builtin f.toString):=by iterate 3 obtain ⟨mg,mb,h1,h2,_,_,_,_,h3,_⟩:=fx.glob;exact uY rfl ⟨mg,mb,h1,h2,.inr (h3 f hf)⟩
theorem uo:∀ {f:Str} (fx:Fx J) (hf:f∈ro),pN J f (.type f.toString):=by iterate 3 obtain ⟨mg,mb,h1,h2,_,_,_,_,_,h3,_⟩:=fx.glob;exact uY rfl ⟨mg,mb,h1,h2,.inr (h3 f hf)⟩
structure Z2 (J:Cx) (n:Nat):Prop where
 i2d:∀ {ds g d g'},qL ds g=some (d,g')->∃ fv,pN J "_int2digits" fv/\∀ {A W s vs},Qs n A->W.H=g->Qo J W.F W.as ds vs->Qn J W s->Ex J A (call fv vs) [] W s (li J d g')
 d2i:∀ {ds g d g'},qM ds g=some (d,g')->∃ fv,pN J "_digits2int" fv/\∀ {A W s vs},Qs n A->W.H=g->Qo J W.F W.as ds vs->Qn J W s->Ex J A (call fv vs) [] W s (li J d g')
 lexer:∀ {ds g d g'},uO ds g=some (d,g')->∃ fv,pN J "_law_lexer" fv/\∀ {A W s vs},Qs n A->W.H=g->Qo J W.F W.as ds vs->Qn J W s->Ex J A (call fv vs) [] W s (li J d g')
 Wc:∀ {ds g d g'},sa ds g=some (d,g')->∃ fv,pN J "_netrclex" fv/\∀ {A W s vs},Qs n A->W.H=g->Qo J W.F W.as ds vs->Qn J W s->Ex J A (call fv vs) [] W s (li J d g')
theorem M1:∀ (fx:Fx J) (sp:30<=n->Z2 J n),Sp J n:=by iterate 2
 exact {
  sp:=by
   intro f h ds g d g' e h hn;have sp:=sp hn;unfold special at e;repeat' (split at e)
   ·cases e;rename_i q;rw [eq_of_beq q];exact sp.i2d h
   ·cases e;rename_i q;rw [eq_of_beq q];exact sp.d2i h
   ·cases e;rename_i q;rw [eq_of_beq q];exact sp.lexer h
   ·cases e;rename_i q;rw [eq_of_beq q];exact sp.Wc h
   ·cases e;rename_i q;rw [eq_of_beq q];exact ⟨_,px fx (by decide),fun hA hg hd hw=>by subst hg;exact yC h hd hw⟩
   ·cases e;rename_i q;rw [eq_of_beq q];exact ⟨_,uo fx (by decide),fun hA hg hd hw=>by subst hg;exact AH h hd hw⟩
   ·cases e;rename_i q;rw [eq_of_beq q];exact ⟨_,px fx (by decide),fun hA hg hd hw=>by subst hg;exact Eb hA.1 h hd hw⟩
   ·cases e;rename_i q;rw [eq_of_beq q];exact ⟨_,uo fx (by decide),fun hA hg hd hw=>by subst hg;exact B1 hA.1 h hd hw⟩
   ·cases e;rename_i q;rw [eq_of_beq q];exact ⟨_,px fx (by decide),fun hA hg hd hw=>by subst hg;exact wp h hd hw⟩
   ·cases e;rename_i q;rw [eq_of_beq q];exact ⟨_,px fx (by decide),fun hA hg hd hw=>by subst hg;exact zr h hd hw⟩
   ·cases e}
end
noncomputable def Rf:List Str:=["__getattribute__","__getattr__","__setattr__","lineno","instream","whitespace","pushback","read"]
structure Kl (J:Cx):Prop where
 ex:∃ N mN,(∀ h,HV J h->ClsAt h J.cls N mN)/\(∀ x∈Rf,mN x=none)/\∀ m fn,wm (pu P0 "_netrclex") m=some fn->∃ f o,mN m=some (.ref f)/\FnAt J (F0 J) f fn/\F0 J f=some o/\o.cls= .type "function"
section
variable {J:Cx} {A:bf} {W:Wd} {s:ah} {X:List Addr}
theorem pM:∀ {i:Nat} {ln:Int} {src:Option Nat} {pb:List D} {a:Addr} (hw:Qn J W s) (h1:W.H[i]? =some (.lex ln src pb)) (ha:W.as[i]? =some a),∃ dA pA iv t u vs,W.QF[i]? =some [dA,pA]/\dA≠pA/\pb.length<=lim/\Sj J W.F a dA/\dA≠a/\
   s.heap.Ns1 dA (tN (.int ln t) iv (.str "\n\t\r " u) pA)/\bS s.heap pA vs/\Qo J W.F W.as pb vs.toList/\SrcAt J W.F W.as iv src/\s.heap.Inst a J.cls (tN (.int ln t) iv (.str "\n\t\r " u) pA):=by iterate 8
 obtain ⟨a',fp,hv,Vq,hf,hl,dA,pA,iv,t,u,vs,e1,e4,e5,e6,rfl,e8⟩:=sP (v:= .ref a) hw h1 (by dsimp only [Rd];exact ⟨a,rfl,ha⟩);cases hv;have hn:=(Rn.mp hw.nodup).1 _ (bL hf);have hd:dA≠a:=by rintro rfl;obtain ⟨ob,z1,_⟩:=e1;rw [(hw.RD dA (qK hf (by simp))).1] at z1;cases z1
 obtain ⟨ob,z1,z2,z3,z4⟩:=id e1;exact ⟨dA,pA,iv,t,u,vs,hf,fun q=>by subst q;simp at hn,hl,e1,hd,e4,e5,e6,e8,⟨ob,hw.sub _ _ z1,z2,z4,.inr ⟨dA,z3,hd,e4⟩⟩⟩
theorem sd:bI (.type "object") (bB "lineno")=pure none:=by iterate 0 rw [bM,bp];rfl'
theorem uy:bI (.type "object") (bB "instream")=pure none:=by iterate 0 rw [bM,bp];rfl'
theorem sZ:bI (.type "object") (bB "whitespace")=pure none:=by iterate 0 rw [bM,bp];rfl'
theorem qO:bI (.type "object") (bB "pushback")=pure none:=by iterate 0 rw [bM,bp];rfl'
theorem yK:bI (.type "object") (bB "read")=pure none:=by iterate 0 rw [bM,bp];rfl'
theorem uu:∀ {a:Addr} {mA:Str->Option ag} {name:Str} {v:ag} {x:Bool} {E:ag->ah->Prop} {Q:ag->ah->Prop} (kl:Kl J) (hI:s.heap.Inst a J.cls mA) (hv:mA name=some v) (hh:kB v=pure v) (hn:name∈Rf) (hB:bI (.type "object") name=pure none) (hw:Qn J W s) (hq:Q v {s with toks:=s.toks+1}),aD (aC P0 J.w) A (mP (.ref a) name x) Q E s:=by iterate 15 obtain ⟨N,mN,hc,h0,_⟩:=kl.ex;obtain ⟨hp,g,d,t,os⟩:=s;have X:=hc hp hw.Qw;obtain ⟨nm,q,bs,sn,sub,col,dd,k0,k1,k2,k3,k5,hC⟩:=X.obj;exact load_attr hC X.ns (h0 _ (by decide)) (h0 _ hn) hB hI hv hh hq
theorem JT:∀ {i:Nat} {o:MO} {a:Str} {d:D} {ov:ag} (kl:Kl J) (h1:W.H[i]? =some o) (h2:xC a o=some d) (h3:Rd J W.F W.as (.loc i) ov) (hw:Qn J W s),Ex J A (mP ov a true) [] W s (li J d W.H):=by iterate 10
 obtain ⟨b,rfl,hb⟩:=h3;replace h2:=bi h2;obtain ⟨⟨ln,src,pb⟩,q0,h2⟩:=h2;cases sV q0;obtain ⟨dA,pA,iv,t,u,vs,hf,_,_,_,_,_,_,_,_,hI⟩:=pM hw h1 hb;split at h2
 ·rename_i q;cases h2;rw [eq_of_beq q];exact uu kl hI (by rfl) rfl (by decide) sd hw ⟨W,Qk.toks hw,rfl,t,rfl⟩
 ·split at h2
  ·rename_i q;cases h2;rw [eq_of_beq q];exact uu kl hI (by rfl) rfl (by decide) sZ hw ⟨W,Qk.toks hw,rfl,by decide,u,by rfl⟩
  ·cases h2
end
section
variable {J:Cx} {A:bf} {W W0:Wd} {s s0:ah} {X:List Addr} {sc:aX} {st:St} {env:Env} {ow:List Addr} {B:Bs}
theorem Gc:∀ {fn:Fn} {a:Addr} {M:Model} (h4:FnAt J (F0 J) a fn),∀ h,HV J h->∃ k,(k=mZ\/k=mr\/k=lC)/\jI M h (lG (.ref a)) k:=by iterate 4
 exact (fun h hl=>by
 obtain ⟨o,fd,e,hd,_⟩:=h4.obj;have:=hl a o e;obtain ⟨oc,od,dt,sl⟩:=o;dsimp only at hd;subst hd;exact cX h ⟨oc,od,fd,sl,this⟩)
theorem EQ:∀ {m:Str} {fn:Fn} {a:Addr} {mA:Str->Option ag} {o:Expr} {apos pos:Pos} {k:Nat} {trees:List (Bool×Sem ag)} {Q:ag->ah->Prop} {E:ag->ah->Prop} (kl:Kl J) (hf:wm (pu P0 "_netrclex") m=some fn) (hI:s.heap.Inst a J.cls mA) (hm:mA m=none) (hB:bI (.type "object") m=pure none) (hp:trees.any (·.1)=false) (hk:k<30) (hl:(apos.endLine==pos.line)=true) (hw:Qn J W s) (h:∀ f,FnAt J (F0 J) f fn->aD (aC P0 J.w) A (eM trees) (fun vs s'=>HV J s'.heap/\aD (aC P0 J.w) A (call (.ref f) (.ref a::vs)) Q E s') E s),aD (aC P0 J.w) A (eG o m apos pos env (.ref a) k trees []) Q E s:=by iterate 21
 obtain ⟨N,mN,hc,h0,UA⟩:=kl.ex;obtain ⟨f,ob,Yt,Qz,ho,Sl⟩:=UA m fn hf;have YJ:iL k trees []=true:=by unfold iL;simp only [nB,ml,if_true,ib,ai,decide_eq_true_eq,and_true];exact ⟨qw hp,hk⟩
 have Ru:fD true o env apos pos=pure pos:=by unfold fD;simp [hl]
 unfold eG;rw [YJ];have TS:=hw.Qw;have hh:=h f Qz;obtain ⟨Wi,g,d,t,os⟩:=s;have X:=hc Wi TS;obtain ⟨nm,q,bs,sn,sub,col,dd,k0,k1,k2,k3,k5,hC⟩:=X.obj;refine ae (bu (method_of hC X.ns (h0 _ (by decide)) (h0 _ (by decide)) Yt (TS _ _ ho) Sl hB hI hm ?_));refine ae (gb Ru ?_);exact c9 (by simp [hp]) (Gc Qz) (pz hp hh)
theorem ur:∀ {x name:Str} {xp ap:Pos} {a:Addr} {mA:Str->Option ag} {v:ag} {Q:ag->ah->Prop} {E:ag->ah->Prop} (kl:Kl J) (hv:RB s.heap env x (.ref a)) (hk:env.scope.kind= .function) (hx:mt x=true) (hI:s.heap.Inst a J.cls mA) (hm:mA name=some v) (hh:kB v=pure v) (hn:name∈Rf) (hB:bI (.type "object") name=pure none) (hw:Qn J W s) (hq:Q v {s with toks:=s.toks+1}),aD (aC P0 J.w) A (eval (.Attribute (.Name x xp) name ap) env) Q E s:=by iterate 20 rw [jk,pR];refine ae (bq (db hv hk hx ?_) (oJ hx).1);exact ae (bt (ae (bu (uu kl hI hm hh hn hB hw (ae (ay (ay hq)))))))
end
section
variable {J:Cx} {A:bf} {W W0:Wd} {s s0:ah} {X:List Addr}
theorem Ge:∀ {i:Nat} {ln:Int} {src:Option Nat} {pb pb':List D} {a dA pA:Addr} {SP:Array ag} {s':ah} (hw:Qn J W s) (h1:W.H[i]? =some (.lex ln src pb)) (ha:W.as[i]? =some a) (hp:W.QF[i]? =some [dA,pA]) (hl:pb'.length<=lim) (hs:wc J s pA SP s') (hr:Qo J W.F W.as pb' SP.toList),Qk J X W s ⟨W.F,W.H.set i (.lex ln src pb'),W.as,W.QF.set i [dA,pA]⟩ s':=by iterate 17
 obtain ⟨dA',pA',iv,t,u,vs,hf,TZ,UM,e1,hd,e4,e5,e6,e8,_⟩:=pM hw h1 ha;rw [hf] at hp;cases hp;obtain ⟨h',tk,rfl,sb,p'⟩:=hs;have kk:∀ b o,b≠pA->s.heap.get? b=some o->h'.get? b=some o:=fun b o hb e=>(sb.2 b hb).trans e;refine Qk.Vv (tk:=tk) (mo':= .lex ln src pb') (h':=h') hw ha hf (fun b o hb e=>kk b o (fun q=>hb (by rw [q];simp)) e) (fun b hb=>?_) ?_ (fun b hb=> .inl hb) (by simpa using TZ)
 ·by_cases q:b=pA
  ·subst q;obtain ⟨o,_,e,_⟩:=p';exact ⟨o,e⟩
  ·obtain ⟨o,e⟩:=(hw.RD b (qK hf hb)).2.2;exact ⟨o,kk b o q e⟩
 ·exact ⟨hl,dA,pA,iv,t,u,SP,e1,Ns1.keep e4 fun o=>kk _ _ TZ,p',hr,rfl,e8⟩
theorem Mn:∀ {i:Nat} {ln ln':Int} {src:Option Nat} {pb:List D} {a:Addr} {h':Heap} {tk:Nat} {t t':Tok} {iv ws:ag} {dA pA:Addr} (hw:Qn J W s) (h1:W.H[i]? =some (.lex ln src pb)) (ha:W.as[i]? =some a) (hf:W.QF[i]? =some [dA,pA]) (hm:s.heap.Ns1 dA (tN (.int ln t) iv ws pA)) (hI:h'.Inst a J.cls fun y=>if y="lineno" then some (.int ln' t') else tN (.int ln t) iv ws pA y) (hk:∀ (b:Addr) (o:Obj),b≠a->(∀ (SQ:Obj) (dx:Addr),s.heap.get? a=some SQ->SQ.dict=some dx->b≠dx)->s.heap.get? b=some o->h'.get? b=some o) (ho:∀ SQ:Obj,s.heap.get? a=some SQ->∃ UW,h'.get? a=some UW/\UW.cls=SQ.cls/\UW.data=SQ.data/\UW.slots=SQ.slots/\∀ dx:Addr,SQ.dict=some dx->UW.dict=some dx),Qk J X W s ⟨W.F,W.H.set i (.lex ln' src pb),W.as,W.QF.set i [dA,pA]⟩ {s with heap:=h',toks:=tk}:=by iterate 22
 obtain ⟨dA',pA',iv',t2,u,vs,Xh,TZ,UM,e1,hd,e4,e5,e6,e8,_⟩:=pM hw h1 ha;rw [hf] at Xh;cases Xh;obtain ⟨ob,f1,f2,f3,f4⟩:=id e1;have e1s:=hw.sub _ _ f1;obtain ⟨o1,q1,q2,q3,q4,q5⟩:=ho _ e1s;replace q5:=q5 dA f3;have Xt:h'.get? a=some ob:=by rw [q1];obtain ⟨c0,d0,ZY,s0⟩:=o1;obtain ⟨c1,d1,dt1,s1⟩:=ob;simp only at q2 q3 q4 q5 f3;subst q2;subst q3;subst q4;subst q5;subst f3;rfl
 have kk:∀ b o,b≠dA->s.heap.get? b=some o->h'.get? b=some o:=fun b o hb e=>by
  by_cases q:b=a
  ·subst q;rw [e1s] at e;cases e;exact Xt
  ·exact hk b o q (fun SQ dx z1 z2=>by rw [e1s] at z1;cases z1;rw [f3] at z2;cases z2;exact hb) e
 have same:∀ y,tN (.int ln t) iv ws pA y=tN (.int ln t2) iv' (.str "\n\t\r " u) pA y:=by obtain ⟨o,es,ep,z1,z2,z3,z4,z5⟩:=hm;obtain ⟨o',es',ep',y1,y2,y3,y4,y5⟩:=e4;rw [z1] at y1;cases y1;rw [z2] at y2;cases y2;exact fun y=>(z5 y).symm.trans (y5 y)
 have hiv:iv=iv':=by have:=same "instream";exact bh this
 have WI:ws= .str "\n\t\r " u:=by have:=same "whitespace";exact bh this
 subst hiv;subst WI;obtain ⟨o2,y1,y2,y3,y4⟩:=hI;rw [Xt] at y1;cases y1;rcases y4 with ⟨z,_⟩ | ⟨d,z1,z2,z3⟩
 ·rw [f3] at z;cases z
 ·rw [f3] at z1;cases z1;have abe:(fun y:Str=>if y="lineno" then some (.int ln' t') else tN (.int ln t) iv (.str "\n\t\r " u) pA y)=tN (.int ln' t') iv (.str "\n\t\r " u) pA:=by
   funext y;unfold tN;by_cases q:y="lineno"
   ·rw [if_pos q,if_pos q]
   ·rw [if_neg q,if_neg q,if_neg q]
  rw [abe] at z3;refine Qk.Vv (tk:=tk) (mo':= .lex ln' src pb) (h':=h') hw ha hf (fun b o hb e=>kk b o (fun q=>hb (by rw [q];simp)) e) (fun b hb=>?_) ?_ (fun b hb=> .inl hb) (by simpa using TZ)
  ·by_cases q:b=dA
   ·subst q;obtain ⟨o,_,_,e,_⟩:=z3;exact ⟨o,e⟩
   ·obtain ⟨o,e⟩:=(hw.RD b (qK hf hb)).2.2;exact ⟨o,kk b o q e⟩
  ·exact ⟨UM,dA,pA,iv,t',u,vs,e1,z3,bS.keep e5 fun o=>kk _ _ (dz TZ),e6,rfl,e8⟩
theorem K3:∀ {j:Nat} {cs cs':List Nat} {a:Addr} {XF:Array ag} {s':ah} (hw:Qn J W s) (h1:W.H[j]? =some (.sg cs)) (ha:W.as[j]? =some a) (hl:cs'.length<=lim) (hs:wc J s a XF s') (hr:xw cs' XF.toList),Qk J X W s ⟨W.F,W.H.set j (.sg cs'),W.as,W.QF.set j [a]⟩ s':=by iterate 12 obtain ⟨a',fp,hv,Vq,hf,hc,rfl,ss,p,Tv⟩:=sP (v:= .ref a) hw h1 (by dsimp only [Rd];exact ⟨a,rfl,ha⟩);cases hv;obtain ⟨h',tk,rfl,sb,p'⟩:=hs;refine Qk.Vv (tk:=tk) (mo':= .sg cs') (h':=h') hw ha hf (fun b o hb e=>(sb.2 b (fun q=>hb (by rw [q];simp))).trans e) (fun b hb=>?_) ⟨hl,rfl,XF,p',hr⟩ (fun b hb=> .inl hb) (by simp);simp at hb;subst hb;obtain ⟨o,_,e,_⟩:=p';exact ⟨o,e⟩
end
noncomputable def S5:Fn:=⟨["self","token"],(.mk .function [("self",.local),("token",.local)] false false []),
 [(.Expr (.Call (.Attribute (.Attribute (.Name "self" ⟨162,8,162,12⟩) "pushback" ⟨162,8,162,21⟩) "append" ⟨162,8,162,28⟩) [(.Name "token" ⟨162,29,162,34⟩)] [] ⟨162,8,162,35⟩) ⟨162,8,162,35⟩)]⟩
theorem DS:wm (pu P0 "_netrclex") "push_token" =some S5:=by iterate 0 rfl'
section
variable {J:Cx} {A:bf} {W W0:Wd} {s s0:ah} {X:List Addr} {sc:aX} {st:St} {env:Env} {ow:List Addr} {B:Bs}
theorem Gb:∀ {f:Addr} {i:Nat} {ln:Int} {src:Option Nat} {l:List D} {d:D} {a:Addr} {v:ag} (fx:Fx J) (kl:Kl J) (Qz:FnAt J (F0 J) f S5) (h1:W.H[i]? =some (.lex ln src l)) (hl:l.length<lim) (ha:W.as[i]? =some a) (rv:Rd J W.F W.as d v) (hw:Qn J W s) (hA:Qs 1 A),Ex J A (call (.ref f) [.ref a,v]) [] W s (li J .none (W.H.set i (.lex ln src (l++[d])))):=by iterate 17
 have RV:Rd J W.F W.as (.loc i) (.ref a):=by dsimp only [Rd];exact ⟨a,rfl,ha⟩
 refine sr (ds:=[.loc i,d]) fx Qz rfl (by have:=hA.2.1;omega) (by dsimp only [Qo];exact ⟨_,_,rfl,RV,_,_,rfl,rv,rfl⟩) hw fun env Qg R=>?_;have RO:=R.ok;obtain ⟨dA,pA,iv,t,u,vs,hf,TZ,UM,e1,hd,e4,e5,e6,e8,hI⟩:=pM RO h1 ha;obtain ⟨v1,Se,r1⟩:=R.R.vars "self" (.loc i) (by rfl');have Ug:v1= .ref a:=by dsimp only [Rd] at r1;obtain ⟨a',rfl,q⟩:=r1;rw [ha] at q;cases q;rfl
 subst Ug;show aD _ _ (gg S5.body env) _ _ _;unfold S5;refine ao (dE ?_ (rq R) rfl);refine cA rfl rfl rfl rfl (ur kl Se R.R.kind (by decide) hI (by rfl) rfl (by decide) qO RO ?_);obtain ⟨o,n,eo,co,dO,dt⟩:=id e5;refine ⟨"list","list.append",cI,fG,fE,⟨o,eo,co⟩,fun b q=>by cases q;exact ⟨o,eo,dO⟩,?_⟩;refine ii rfl ?_;have R2:=R.expr (Qk.toks (X:=[]) (tk:=Qg.toks+1) RO);obtain ⟨v2,Zx,r2⟩:=R2.R.vars "token" d (by rfl');refine aR (bq (db Zx R2.R.kind (by decide) ?_) (by decide)) rfl;refine aZ ?_;have Rm:vs.size=l.length:=by rw [<-e6.length,bA]
 refine af (tW (vs:=vs) (x:=v2) e5 (by omega)) (fun v s2 z0=>?_) fun _ _ f=>f;obtain ⟨hv,hs⟩:=z0;refine aW ?_;exact ⟨_,R2.tr.Qi (Ge (X:=[]) (pb':=l++[d]) R2.ok h1 ha hf (by simp;omega) hs (by rw [gh];exact e6.append (Qo.one r2))),rfl,by dsimp only [Rd]⟩
end
end MP.Lake
namespace MP.Lake
open PySem PyProof.Rows
open AutoSeq1 (wpAny_loadPart')
theorem EK:∀ (l:Addr) (x0:ag) (items:Array ag) (n:Nat) (u:Tok) (dd:Option Addr) (sl:Array (Option ag)) (he:¬ items.isEmpty=true) (hx:((mh 0 items.size).bind fun k=>items[k]?.map (k,·))=some (0,x0)) (Vz:items.size<=dw),Meets (ie.«list.pop» ⟨[.ref l,.int 0 u],[]⟩) (fun _ R s=>s.heap.get? l=some {cls:= .type "list",dict:=dd,data:= .seq items n,slots:=sl}/\R (.ok (.ret x0)) {s with heap:=s.heap.update l (iS fun x=>x.eraseIdxIfInBounds 0),toks:=s.toks}):=by iterate 10
 exact (.of_wp fun prog w A R s h=>by
  obtain ⟨hp,g,d,tk,os⟩:=s;obtain ⟨hl,h⟩:=h;have f1:=iG;have Xm:¬ (!Builtin.List.listFitsIndex 0)=true:=by decide
  have VK:(items.eraseIdxIfInBounds 0).size<=dw+1:=by
   unfold j3;split
   ·rw [Array.size_eraseIdx];omega
   ·omega
  wp_walk using (iu hl rfl (hz:=Vz) (_hz':=VK)),dW hl
  rw [hx];wp_walk using (iu hl rfl (hz:=Vz) (_hz':=VK)),dW hl;exact ⟨_,rfl,h⟩)
section
variable {J:Cx} {A:bf} {W W0:Wd} {s s0:ah} {X:List Addr} {env:Env}
theorem Ar:∀ {a:Addr} {vs:Array ag} {x:ag} {r:List ag} {u:Tok} {E:ag->ah->Prop} (p:bS s.heap a vs) (hv:vs.toList=x::r) (Rm:vs.size<=lim),aD (aC P0 J.w) A (call (.builtin "list.pop") [.ref a,.int 0 u]) (fun v s'=>v=x/\wc J s a r.toArray s') E s:=by iterate 9
 obtain ⟨o,n,e,c,d,dt⟩:=id p;obtain ⟨cls,QC,data,sl⟩:=o;simp only at c d dt;subst c;subst d;subst dt;have:=pe;obtain ⟨l⟩:=vs;simp only at hv;subst hv;refine iC gE ⟨_,e,rfl⟩ PySem.F.entry_list_pop (PySem.F.args_list_pop_2 _ _) (EK a x _ n u none sl (by simp) ?_ (by omega)) ⟨e,?_⟩
 ·simp [mh]
 ·refine ⟨rfl,_,_,rfl,eJ ..,?_⟩;have:=ug (f:=fun x=>x.eraseIdxIfInBounds 0) e rfl rfl rfl;simpa [j3] using this
theorem A1:∀ {k:Nat} {trees:List (Bool×Sem ag)} (hp:trees.any (·.1)=false) (hk:k<30),iL k trees []=true:=by iterate 4 unfold iL;simp only [nB,ml,if_true,ib,ai,decide_eq_true_eq,and_true];exact ⟨qw hp,hk⟩
theorem zg:∀ {m:Str} {id:String} {a:Addr} {o:Obj} {oe:Expr} {apos pos:Pos} {k:Nat} {trees:List (Bool×Sem ag)} {Q:ag->ah->Prop} {E:ag->ah->Prop} (slot:Slot "list" m id) (hty:typeOf (.builtin id)=pure (.type "method_descriptor")) (e:s.heap.get? a=some o) (c:o.cls= .type "list") (d:o.dict=none) (hp:trees.any (·.1)=false) (hk:k<30) (hl:(apos.endLine==pos.line)=true) (h:aD (aC P0 J.w) A (eM trees) (fun vs s'=>aD (aC P0 J.w) A (call (.builtin id) (.ref a::vs)) Q E s') E s),aD (aC P0 J.w) A (eG oe m apos pos env (.ref a) k trees []) Q E s:=by iterate 20
 have Ru:fD true oe env apos pos=pure pos:=by unfold fD;simp [hl]
 unfold eG;rw [A1 hp hk];refine ae (bu (getMethod_builtin (T:="list") ⟨o,e,c⟩ cI slot hty (fun b q=>by cases q;exact ⟨o,e,d⟩) ?_));exact ae (gb Ru (ii hp h))
theorem Er:∀ {j:Nat} {ds:List D} {d:D} {g1 g2:G} (h:methD "pop" (.loc j) ds g1=some (d,g2)),ds=[.int 0]/\∃ c r,g1[j]? =some (.sg (c::r))/\d= .str [c]/\g2=g1.set j (.sg r):=by iterate 6
 cases ds with
 | nil=>replace h:vI "pop" g1 j=some (d,g2):=h;unfold vI at h;rw [if_neg (by decide),if_neg (by decide)] at h;cases h
 | cons d1 r=>
  replace h:=bi h;obtain ⟨_,h1,h⟩:=h;cases oU h1;rw [if_neg (by decide),if_pos (by decide)] at h;replace h:=bi h;obtain ⟨k,h2,h⟩:=h;cases be h2;split at h
  ·rename_i hk;cases hk;replace h:=vq h;obtain ⟨o,e,cs,h3,⟨c,r⟩,h4,h⟩:=h;cases h;cases sC h3;cases qr h4;exact ⟨rfl,c,r,e,rfl,rfl⟩
  ·cases h
theorem Ig:∀ {g g1:G} {j:Nat} {cs:List Nat} (hk:g[j]?.map kindOf=g1[j]?.map kindOf) (e:g1[j]? =some (.sg cs)),∃ cs',g[j]? =some (.sg cs'):=by iterate 6
 rw [e] at hk;cases q:g[j]? with
 | none=>rw [q] at hk;cases hk
 | some mo=>cases mo<;>rw [q] at hk<;>first | exact ⟨_,rfl⟩ | cases (show (1:Nat)=2 from bh hk) | cases (show (3:Nat)=2 from bh hk) | cases (show (2:Nat)=1 from bh hk) | cases (show (3:Nat)=1 from bh hk) | cases (show (1:Nat)=3 from bh hk) | cases (show (2:Nat)=3 from bh hk)
theorem Fp:∀ {g g1:G} {j:Nat} {ln:Int} {src:Option Nat} {pb:List D} (hk:g[j]?.map kindOf=g1[j]?.map kindOf) (e:g1[j]? =some (.lex ln src pb)),∃ ln src pb,g[j]? =some (.lex ln src pb):=by iterate 8
 rw [e] at hk;cases q:g[j]? with
 | none=>rw [q] at hk;cases hk
 | some mo=>cases mo<;>rw [q] at hk<;>first | exact ⟨_,_,_,rfl⟩ | cases (show (1:Nat)=2 from bh hk) | cases (show (3:Nat)=2 from bh hk) | cases (show (2:Nat)=1 from bh hk) | cases (show (3:Nat)=1 from bh hk) | cases (show (1:Nat)=3 from bh hk) | cases (show (2:Nat)=3 from bh hk)
theorem Go:∀ {j:Nat} {ds:List D} {d:D} {g1 g2:G} {o:Expr} {apos pos:Pos} {k:Nat} {trees:List (Bool×Sem ag)} {ov:ag} (h:methD "pop" (.loc j) ds g1=some (d,g2)) (Vf:W.H[j]?.map kindOf=g1[j]?.map kindOf) (r:Rd J W.F W.as (.loc j) ov) (hw:Qn J W s) (hp:trees.any (·.1)=false) (hk:k<30) (hl:(apos.endLine==pos.line)=true) (ht:Ex J A (eM trees) [] W s (fun vs W' _=>W'.H=g1/\Qo J W'.F W'.as ds vs)),Ex J A (eG o "pop" apos pos env ov k trees []) [] W s (li J d g2):=by iterate 19
 obtain ⟨rfl,c,rs,e1,rfl,rfl⟩:=Er h;obtain ⟨cs',e0⟩:=Ig Vf e1;obtain ⟨a,fp,rfl,ha,hf,hc,rfl,ss,⟨ob,n,p1,p2,p3,p4⟩,hs⟩:=sP hw e0 r;refine zg gE j7 p1 p2 p3 hp hk hl (Ex.into ht fun vs W1 s1 k1 z0=>?_);obtain ⟨hg,rv⟩:=z0;obtain ⟨v,rfl,r1⟩:=qC rv;obtain ⟨u,rfl⟩:=r1;subst hg;have ha1:=k1.as _ _ ha;obtain ⟨a',fp',hv,Vq,Xh,hc',rfl,XF,p',Tv⟩:=sP (v:= .ref a) k1.ok e1 ⟨a,rfl,ha1⟩;cases hv;obtain ⟨v,r',q1,⟨t,rfl⟩,q2⟩:=Tv;have Rm:XF.size=(c::rs).length:=by have:=(yG (J:=J) (F:=W1.F) (as:=W1.as) (cs:=c::rs) (vs:=XF.toList) ⟨_,r',q1,⟨t,rfl⟩,q2⟩).length;simpa using this
 refine af (Ar p' q1 (by rw [Rm];exact hc')) (fun v s2 z1=>?_) fun _ _ f=>f;obtain ⟨hv,hs2⟩:=z1;subst hv;refine ⟨_,k1.Qi (K3 (X:=[]) (cs':=rs) k1.ok e1 ha1 (by simp at hc';omega) hs2 (by simpa using q2)),rfl,by simp [lim],t,rfl⟩
end
end MP.Lake
namespace MP.Lake
open PySem PyProof.Rows
noncomputable def wq:dD:= .mk [] [(.mk "size" none ⟨248,25,248,29⟩)] none [] [] none []
noncomputable def oV:aX:=(.mk .function [("size",.local),("signs",.free)] false false [("fast",(.str "size")),("fast",(.str "one")),("fast",(.str "signs"))])
noncomputable def uD:Pos:=⟨248,18,248,78⟩
noncomputable def uN:Expr:=(.Subscript (.Name "signs" ⟨248,64,248,69⟩) (.Slice none (some (.Name "size" ⟨248,71,248,75⟩)) none ⟨248,70,248,75⟩) ⟨248,64,248,76⟩)
noncomputable def uV:Expr:=(.Call (.Attribute (.Constant (.str "") 0 ⟨248,31,248,33⟩) "join" ⟨248,31,248,38⟩) [(.ListComp (.Call (.Attribute (.Name "signs" ⟨248,40,248,45⟩) "pop" ⟨248,40,248,49⟩) [(.Constant (.int 0) 0 ⟨248,50,248,51⟩)] [] ⟨248,40,248,52⟩) [(.mk (.Name "one" ⟨248,57,248,60⟩) uN [] 0)] (.mk .function [(".0",.local),("one",.local),("signs",.free)] false false []) ⟨248,39,248,77⟩)] [] ⟨248,31,248,78⟩)
theorem Mc:((o8 P0 "_law_lexer").bind fun f=>Kc f.body)=some (wq,uV,oV,uD):=by iterate 0 rfl'
noncomputable def tm (j:Nat):St:=⟨[("size",.int 1)],[("signs",.loc j)],none⟩
theorem IL:∀ {j:Nat} {g:G} {cs:List Nat} (e:g[j]? =some (.sg cs)),ceE P0 6 oV (tm j) uN g=some (.lst (slice (cs.map fun c=> .str [c]) none (some 1)),g):=by iterate 4
 have:ceE P0 6 oV (tm j) uN g=(xc g (.loc j) none (some 1)).bind fun d=>some (d,g):=by rfl'
 rw [this];show ((g[j]?.bind fun o=>(Bf o).bind fun cs=>some (D.lst (slice (cs.map fun c=> .str [c]) none (some 1))))).bind _=_;rw [e];rfl
noncomputable def tP:aX:=(.mk .function [(".0",.local),("one",.local),("signs",.free)] false false [])
noncomputable def vM:Expr:=(.Call (.Attribute (.Name "signs" ⟨248,40,248,45⟩) "pop" ⟨248,40,248,49⟩) [(.Constant (.int 0) 0 ⟨248,50,248,51⟩)] [] ⟨248,40,248,52⟩)
noncomputable def N1 (j:Nat) (ρ:Qm):St:=((tm j).comp oV tP).withRho ρ
noncomputable def BQ:Expr:= .Name "one" ⟨248,57,248,60⟩
noncomputable def uh (j:Nat):D->List D->G->Option (List D×G×Option D):=O8 (fs P0 6) oV (tm j) BQ vM [] tP
theorem Ix:∀ {j:Nat} {g:G} {ρ:Qm},ceE P0 6 tP (N1 j ρ) vM g=(q7 (qe g (.loc j)==qe g (.loc j))).bind fun _=>Mm g j:=by iterate 3 rfl'
noncomputable def xM (g:G) (j:Nat):List Nat->G
| []=>g
| _::r=>g.set j (.sg r)
theorem FD:∀ {j:Nat} {g:G} {cs:List Nat} (e:g[j]? =some (.sg cs)),ceE P0 7 oV (tm j) (.ListComp vM [(.mk (.Name "one" ⟨248,57,248,60⟩) uN [] 0)] tP ⟨248,39,248,77⟩) g=some (.lst ((cs.take 1).map fun c=> .str [c]),xM g j cs):=by iterate 4
 show ((q7 (yg oV tP&&tQ tP BQ)).bind fun _=>(ceE P0 6 oV (tm j) uN g).bind fun x=>(itemsOf x.1).bind fun ds=>(iterLoop (uh j) ds [] x.2).bind fun y=>(Ei y.1).bind fun d=>some (d,y.2.1))=_;rw [show q7 (yg oV tP&&tQ tP BQ)=some () from by rfl',IL e];cases cs with
 | nil=>rfl
 | cons c r=>
  have h1:uh j (.str [c]) [] g=some ([.str [c]],g.set j (.sg r),none):=by
   have:uh j (.str [c]) [] g=(ceE P0 6 tP (N1 j [("one",.str [c])]) vM g).bind fun p=>some ([p.1],p.2,none):=by rfl'
   rw [this,Ix];simp [q7,Mm,e,show ∀ l,Bf (.sg l)=some l from fun _=>rfl,show ∀ (a:Nat) l,u0 (a::l)=some (a,l) from fun _ _=>rfl]
  show ((iterLoop (uh j) [.str [c]] [] g).bind fun x=>(Ei x.1).bind fun d=>some (d,x.2.1))=_;have h2:iterLoop (uh j) [.str [c]] [] g=some ([.str [c]],g.set j (.sg r),none):=by show (uh j (.str [c]) [] g).bind _=_;rw [h1];rfl
  rw [h2];rfl
theorem My:∀ {j:Nat} {g:G} {cs:List Nat} (e:g[j]? =some (.sg cs)),ceE P0 9 oV (tm j) uV g=some (.str (cs.take 1),xM g j cs):=by iterate 4
 have h1:ceEs P0 8 oV (tm j) [.ListComp vM [(.mk (.Name "one" ⟨248,57,248,60⟩) uN [] 0)] tP ⟨248,39,248,77⟩] g=some ([.lst ((cs.take 1).map fun c=> .str [c])],xM g j cs):=by show ((ceE P0 7 oV (tm j) _ g).bind fun d=>(ceEs P0 7 oV (tm j) [] d.2).bind fun ds=>some (d.1::ds.1,ds.2))=_;rw [FD e];rfl
 show (ceEs P0 8 oV (tm j) [.ListComp vM [(.mk (.Name "one" ⟨248,57,248,60⟩) uN [] 0)] tP ⟨248,39,248,77⟩] g).bind (fun p=>methD "join" (.str []) p.1 p.2)=_;rw [h1];cases cs with | nil=>rfl | cons c r=>rfl
theorem Cp:∀ {x:Str} {v:ag},∀ {ps:List Str} {vs:List ag} {i:Nat},cr ps=true->ps[i]? =some x->vs[i]? =some v->(ps.zip vs).reverse.lookup x=some v:=by iterate 2
 intro ps;induction ps with
 | nil=>intro vs i _ h _;simp at h
 | cons p ps Qj=>
  intro vs i hd h1 h2;cases vs with
  | nil=>simp at h2
  | cons u vs=>
   dsimp only [cr] at hd;rw [ai] at hd;rw [fH,gm,List.lookup_append];cases i with
   | zero=>
    simp at h1 h2;subst h1;subst h2;have:(ps.zip vs).reverse.lookup p=none:=by
     rw [gA];intro q hq;have hq:=(hE (dm.mp hq)).1;have h3:p∉ps:=by simpa using hd.1
     simp only [bne_iff_ne,ne_eq,beq_eq_false_iff_ne] at *;exact fun z=>h3 (z▸hq)
    rw [this];simp
   | succ i=>rw [Qj hd.2 (by simpa using h1) (by simpa using h2)];rfl
section
variable {J:Cx} {A:bf} {W W0:Wd} {s s0:ah} {X:List Addr} {sc:aX}
theorem AD:∀ {h:Heap} {L:Addr} {cl:List (Str×Addr)} {qual:Str} {fn:Option Addr} {cd:ag} {ps:List Str} {ds:List D} {vs:List ag} {Sa up:Qm} (hk:sc.kind= .function) (hd:cr ps=true) (RZ:h.Ns L fun x=>(ps.zip vs).reverse.lookup x) (hr:Qo J W.F W.as ds vs) (UK:∀ x d,Sa.lookup x=some d->sc.names.lookup x=some .local->(ps.zip ds).lookup x=some d) (RA:∀ x:Str×eN,x∈sc.names->x.2≠ .cell) (Yc:∀ x d,up.lookup x=some d->∃ c v,cl.lookup x=some c/\h.IsCell c (some v)/\Rd J W.F W.as d v) (Vn:∀ x,sc.names.lookup x=some .free->∃ c v,cl.lookup x=some c/\h.IsCell c v) (Xc:∀ x y c,cl.lookup x=some c->cl.lookup y=some c->x=y) (hL:Apart J W h L) (Sl:∀ p∈cl,p.2≠L/\p.2∉J.T/\p.2∉W.QF.flatten/\∃ o,h.get? p.2=some o) (S1:∀ x c,cl.lookup x=some c->sc.names.lookup x=some .free),Ql J W h sc ⟨Sa,up,none⟩ (m5 sc L bC cl qual fn cd none bU) []:=by iterate 23
 exact {
  kind:=hk
  glob:=rfl
  bi:=rfl
  kd:=fun x k e=> .inl e
  ns:=⟨_,RZ⟩
  vars:=fun x d e=>by
   rcases zu e with ⟨q,e⟩ | ⟨q,e⟩ | ⟨q,e⟩
   ·obtain ⟨c,v,h1,h2,h3⟩:=Yc x d e;exact ⟨v,.inr ⟨.inr q,c,h1,h2⟩,h3⟩
   ·obtain ⟨i,h1,h2⟩:=uE (UK x d e q);obtain ⟨v,h3,h4⟩:=hr.get h2;exact ⟨v,.inl ⟨q,_,RZ,Cp hd h1 h3⟩,h4⟩
   ·exact absurd rfl (RA _ (al q))
  cells:=fun x e=>by
   rcases BJ e with q | q
   ·exact Vn x q
   ·exact absurd rfl (RA _ (al q))
  inj:=Xc
  Rr:=fun x c e=>(Sl _ (al e)).1
  apart:=fun a ha=>by
   rw [aS] at ha;rcases aq.mp ha with rfl | ha
   ·exact ⟨.inl hL.1,hL.2⟩
   ·have Vq:=ha;obtain ⟨p,hp,rfl⟩:=aH.mp ha;have z:=Sl p hp;exact ⟨.inr ⟨av _ Vq,z.1,fun x e=>S1 x _ e⟩,z.2⟩
  own:=fun x o e=>by cases e
  Rc:=fun x o e=>by cases e}
theorem IsCell.keep:∀ {h h':Heap} {c:Addr} {v:Option ag} (x:h.IsCell c v) (k:∀ o,h.get? c=some o->h'.get? c=some o),h'.IsCell c v:=by iterate 6 obtain ⟨o,e,d⟩:=x;exact ⟨o,k _ e,d⟩
theorem Hd:∀ {fn c sA:Addr} {o:Obj} {j:Nat} {cs:List Nat} {t:Tok} (fx:Fx J) (Qr:Ok J 9) (hl:TL W.F fn c) (hc:W.F c=some o) (hd:o.data= .cell (some (.ref sA))) (ha:W.as[j]? =some sA) (e:W.H[j]? =some (.sg cs)) (hw:Qn J W s) (hA:Qs 10 A),Ex J A (call (.ref fn) [.int 1 t]) [] W s (li J (.str (cs.take 1)) (xM W.H j cs)):=by iterate 16
 obtain ⟨XY,a,b,sc,pos,ob,pm,cd,ct,c',oc,vs,t',h1,h2,h3,h4,h5,h6,h7,h8⟩:=hl;have hq:some (a,b,sc,pos)=some (wq,uV,oV,uD):=by rw [<-Mc,h1,bz,h2]
 cases hq;refine eV (PySem.W.kla_callFunE (by have:=hA.2.1;omega) (hw.sub _ _ h3) h4 rfl rfl rfl ⟨c',oc,vs,t',h5,hw.sub _ _ h6,h7,h8⟩ ?_);have hb:iD (Kf wq uV oV c pm cd ct) ⟨[.int 1 t],[]⟩=pure (([("size" :Str)]).zip [dZ 1 t]):=by rfl'
 rw [hb];refine ay (fA (scope:=oV) (by decide) (fun x hx=>by simp at hx;subst hx;rfl) (fun QZ RZ WS=>?_) rfl);have hx:fw s.heap.objs.size s.heap QZ:=fun b o hb e=>WS.extBut b o hb (aF _ e);have t1:=hw.SJ (tk:=s.toks+(([("size" :Str)]).zip [dZ 1 t]).length) hx;have n0:=hw.QL (bn s.heap);refine ⟨?_,PySem.W.kla_codeExpr ?_⟩
 ·obtain ⟨mc,q1,q2⟩:=fx.SD;exact ⟨mc,q1.ns t1.ok.Qw,q2⟩
 have RA:QZ.IsCell c (some (.ref sA)):=⟨o,t1.ok.sub _ _ hc,hd⟩
 have R:Ql J W QZ oV (tm j) (m5 oV s.heap.objs.size bC [("signs",c)] ("_law_lexer.<locals>.<lambda>" ++".<locals>.") (some fn) cd none bU) []:=by
  refine AD (ps:=[("size" :Str)]) (ds:=[.int 1]) (vs:=[.int 1 t]) rfl (by decide) RZ (by dsimp only [Qo,Rd];exact ⟨_,_,rfl,⟨t,rfl⟩,rfl⟩) (fun x d q _=>q) (by decide) (fun x d q=>?_) (fun x q=>?_) (fun x y c1 q1 q2=>?_) ⟨n0.1,n0.2.1,n0.2.2,(by obtain ⟨o,_,_,e,_⟩:=RZ;exact ⟨o,e⟩)⟩ (fun p hp=>?_) (fun x c1 q=>?_)
  ·have z:=al q;simp at z;obtain ⟨rfl,rfl⟩:=z;exact ⟨c,.ref sA,by simp,RA,by dsimp only [Rd];exact ⟨sA,rfl,ha⟩⟩
  ·have z:=al q;simp [oV] at z;subst z;exact ⟨c,_,by simp,RA⟩
  ·have z1:=al q1;have z2:=al q2;simp at z1 z2;rw [z1.1,z2.1]
  ·simp at hp;subst hp;refine ⟨fun q=>?_,fun hm=>?_,fun hm=>?_,o,t1.ok.sub _ _ hc⟩
   ·have:=hw.sub _ _ hc;have q:c=s.heap.objs.size:=q;rw [q,bn] at this;cases this
   ·rw [hw.Ry c hm] at hc;cases hc
   ·rw [(hw.RD c hm).1] at hc;cases hc
  ·have z:=al q;simp at z;rw [z.1];rfl
 exact Ex.into (Qr.e (My e) rfl t1.ok R hA.deeper) fun v W2 s2 k2 r2=>⟨W2,t1.Qi k2,r2⟩
end
set_option maxRecDepth 100000
section
variable {prog:bY} {w:jl} {A:bf} {E:ag->ah->Prop} {h:Heap} {g:Array di} {d:Drawn} {t:Nat} {os:kD}
variable {nm q:Str} {C N x:Addr} {bs:List ag} {sn:List Str} {sub:List ag} {ab:Bool} {col:Option Bool} {dd:Option Addr} {k0 k1 k2 k3 k5:Option ag} {newId:String}
 {mN mA:Str->Option ag} {name:Str} {v:ag}
theorem As:∀ {pl:Sem Bool} {Q:ag×List ag->ah->Prop} (hC:h.get? C=some (hZ nm q C N bs [.type "object"] true sn sub ab col dd k0 k1 k2 k3 k5 newId)) (hn:h.Ns N mN) (hng:mN "__getattribute__" =none) (Yq:mN "__getattr__" =none) (XO:mN name=none) (hB:bI (.type "object") name=pure none) (I:h.Inst x C mA) (hv:mA name=some v) (hh:kB v=pure v) (hq:Q (v,[]) ⟨h,g,d,t+1,os⟩),aD (aC prog w) A (getMethod (.ref x) name pl) Q E ⟨h,g,d,t,os⟩:=by iterate 12
 obtain ⟨o,hx,hc,_⟩:=id I;unfold getMethod specialOf;repeat (first | (with_reducible refine d8 hx ?_;rw [hc]) | (with_reducible refine dg hC hn gr oE ?_;rw [hng]) | (with_reducible refine dg hC hn gr mu ?_;rw [Yq]) | (with_reducible refine dg hC hn gr hB ?_;rw [XO]) | simp only [F.canon_object_ga,bX,if_false] | wp_step)
 show aD _ _ ((runValue (.builtin "proto.getattr_hooked" ⟨[.ref x,.str name t],[]⟩)).onRaise (noteIf true (.ref x) (.str name t))) _ _ _;refine lE (wpAny_runValue (codeAny_builtin jr (load_entry hC hn XO hB I hv ?_)));show aD _ _ (kB v) _ _ _;rw [hh];exact ay (ay hq)
end
section
variable {J:Cx} {A:bf} {W W0:Wd} {s s0:ah} {X:List Addr} {sc:aX} {env:Env}
theorem DW:∀ {m:Str} {a fn:Addr} {mA:Str->Option ag} {o:Expr} {apos pos:Pos} {k:Nat} {trees:List (Bool×Sem ag)} {Q:ag->ah->Prop} {E:ag->ah->Prop} (kl:Kl J) (hI:s.heap.Inst a J.cls mA) (hm:mA m=some (.ref fn)) (hn:m∈Rf) (hB:bI (.type "object") m=pure none) (hf:eH fn s.heap) (hp:trees.any (·.1)=false) (hk:k<30) (hl:(apos.endLine==pos.line)=true) (hw:Qn J W s) (h:aD (aC P0 J.w) A (eM trees) (fun vs s'=>eH fn s'.heap/\aD (aC P0 J.w) A (call (.ref fn) vs) Q E s') E {s with toks:=s.toks+1}),aD (aC P0 J.w) A (eG o m apos pos env (.ref a) k trees []) Q E s:=by iterate 22
 obtain ⟨N,mN,hc,h0,UA⟩:=kl.ex;have Ru:fD true o env apos pos=pure pos:=by unfold fD;simp [hl]
 unfold eG;rw [A1 hp hk];have TS:=hw.Qw;obtain ⟨Wi,g,d,t,os⟩:=s;have X:=hc Wi TS;obtain ⟨nm,q,bs,sn,sub,col,dd,k0,k1,k2,k3,k5,hC⟩:=X.obj;refine ae (bu (As hC X.ns (h0 _ (by decide)) (h0 _ (by decide)) (h0 _ hn) hB hI hm rfl ?_));refine ae (gb Ru ?_);exact c9 (P:=eH fn) (by simp [hp]) (fun h=>cX h) (pz hp h)
theorem G5:∀ {i:Nat} {ln ln':Int} {t':Tok} {src:Option Nat} {pb:List D} {a:Addr} (kl:Kl J) (hw:Qn J W s) (h1:W.H[i]? =some (.lex ln src pb)) (ha:W.as[i]? =some a),Ex J A (setAttr (.ref a) "lineno" (.int ln' t')) [] W s (fun _ W' _=>W'.H=W.H.set i (.lex ln' src pb)/\W'.as=W.as/\W'.F=W.F):=by iterate 11
 obtain ⟨N,mN,hc,h0,_⟩:=kl.ex;obtain ⟨dA,pA,iv,t,u,vs,hf,TZ,UM,e1,hd,e4,e5,e6,e8,hI⟩:=pM hw h1 ha;have Yb:=hw;obtain ⟨hp,g,d,tk,os⟩:=s;have X:=hc hp hw.Qw;obtain ⟨nm,q,bs,sn,sub,col,dd,k0,k1,k2,k3,k5,hC⟩:=X.obj;have Rl:a≠J.cls:=by rintro rfl;obtain ⟨ob,z1,z2,_⟩:=e1;have z:=hw.sub _ _ z1;have z:hp.get? J.cls=_:=z;rw [hC] at z;cases z;cases z2
 refine store_attr (ns:=["lineno","instream","whitespace","pushback"]) kh hC X.ns (h0 _ (by decide)) (h0 _ (by decide)) sd Rl hI (fun h' Zl I' hk ho=>?_) ?_ (by decide)
 ·exact ⟨_,Mn (X:=[]) (tk:=Zl) Yb h1 ha hf e4 I' hk ho,rfl,rfl,rfl⟩
 ·intro x hx;unfold tN at hx;by_cases q1:x="lineno"
  ·simp [q1]
  by_cases q2:x="instream"
  ·simp [q2]
  by_cases q3:x="whitespace"
  ·simp [q3]
  by_cases q4:x="pushback"
  ·simp [q4]
  rw [if_neg q1,if_neg q2,if_neg q3,if_neg q4] at hx;exact absurd rfl hx
noncomputable def QV:Fn:=⟨["self"],(.mk .function [("self",.local),("ch",.local)] false false []),
 [(.Assign [(.Name "ch" ⟨129,8,129,10⟩)] (.Call (.Attribute (.Attribute (.Name "self" ⟨129,13,129,17⟩) "instream" ⟨129,13,129,26⟩) "read" ⟨129,13,129,31⟩) [(.Constant (.int 1) 0 ⟨129,32,129,33⟩)] [] ⟨129,13,129,34⟩) ⟨129,8,129,34⟩),
  (.If (.Compare (.Name "ch" ⟨130,11,130,13⟩) [.Eq] [(.Constant (.str "\n") 0 ⟨130,17,130,21⟩)] ⟨130,11,130,21⟩) [(.AugAssign (.Attribute (.Name "self" ⟨131,12,131,16⟩) "lineno" ⟨131,12,131,23⟩) .Add (.Constant (.int 1) 0 ⟨131,27,131,28⟩) ⟨131,12,131,28⟩)] [] ⟨130,8,131,28⟩),
  (.Return (some (.Name "ch" ⟨132,15,132,17⟩)) ⟨132,8,132,17⟩)]⟩
theorem yE:wm (pu P0 "_netrclex") "_read_char" =some QV:=by iterate 0 rfl'
theorem wz:∀ {g g2:G} {i:Nat} {d:D} (h:wv g i=some (d,g2)),∃ ln j pb cs,g[i]? =some (.lex ln (some j) pb)/\g[j]? =some (.sg cs)/\d= .str (cs.take 1)/\
  (g2=if cs.take 1=[10] then (xM g j cs).set i (.lex (ln+1) (some j) pb) else xM g j cs):=by iterate 5
 replace h:=vq h;obtain ⟨o,e,⟨ln,src,pb⟩,h1,j,h2,h⟩:=h;replace h:=qI h;obtain ⟨o',e2,cs,h3,h⟩:=h;cases sV h1;cases (show src=some j from h2);cases sC h3;refine ⟨ln,j,pb,cs,e,e2,?_⟩;cases cs with | nil=>cases h;exact ⟨rfl,(if_neg (by simp)).symm⟩ | cons c r=>cases h;exact ⟨rfl,by simp [xM]⟩
theorem CC:∀ {g:G} {i j:Nat} {ln:Int} {src:Option Nat} {pb:List D} {cs:List Nat} (h1:g[i]? =some (.lex ln src pb)) (h2:g[j]? =some (.sg cs)),j≠i:=by iterate 9 rintro rfl;rw [h1] at h2;cases h2
theorem FO:∀ {g:G} {i j:Nat} {cs:List Nat} (h:j≠i),(xM g j cs)[i]? =g[i]?:=by iterate 5 cases cs with | nil=>rfl | cons c r=>unfold xM;rw [kZ h]
theorem tA:∀ {i:Nat} {a:Addr} {v:ag} (ha:W.as[i]? =some a) (r:Rd J W.F W.as (.loc i) v),v= .ref a:=by iterate 5 obtain ⟨a',rfl,q⟩:=r;rw [ha] at q;cases q;rfl
theorem we:∀ {f:Addr} {i:Nat} {d:D} {g2:G} {a:Addr} (fx:Fx J) (kl:Kl J) (Qr:Ok J 9) (Qz:FnAt J (F0 J) f QV) (h:wv W.H i=some (d,g2)) (ha:W.as[i]? =some a) (hw:Qn J W s) (hA:Qs 12 A),bQ (aC P0 J.w) A (.call (.ref f) ⟨[.ref a],[]⟩) (fun r s'=>∃ v,r= .ok (.ret v)/\∃ W',Qk J [] W s W' s'/\li J d g2 v W' s') s:=by iterate 13
 obtain ⟨ln,j,pb,cs,h1,h2,rfl,rfl⟩:=wz h;have RV:Rd J W.F W.as (.loc i) (.ref a):=⟨a,rfl,ha⟩
 refine vd (ds:=[.loc i]) fx Qz rfl (by have:=hA.2.1;omega) ⟨_,_,rfl,RV,rfl⟩ hw fun env Qg R _=>?_;have RO:=R.ok;have QY:Qs 11 (A.deeper env):=hA.deeper;obtain ⟨dA,pA,iv,t,u,vs,hf,TZ,UM,e1,hd,e4,e5,e6,e8,hI⟩:=pM RO h1 ha;obtain ⟨st,dS,fn,c,sA,r,o,rfl,f2,f0,f3,f4,f5,f6,f7⟩:=e8;obtain ⟨v1,Se,r1⟩:=R.R.vars "self" (.loc i) (by rfl');have Ug:=tA ha r1;subst Ug;show aD _ _ (gg QV.body env) _ _ _;unfold QV;refine ao (bj ?_ rfl);rw [jj];refine ae (ur kl Se R.R.kind (by decide) hI (by rfl) rfl (by decide) uy RO (ae (bt ?_)));have w2:=Qk.toks (X:=[]) (tk:=Qg.toks+1) RO;have abD:Qg.heap.Inst st J.cls (Kg fn r):=by obtain ⟨o3,es,ep,z1,z2⟩:=f3;obtain ⟨ob,y1,y2,y3,y4⟩:=f2;exact ⟨ob,RO.sub _ _ y1,y2,y4,.inr ⟨dS,y3,f0,o3,es,ep,RO.sub _ _ z1,z2⟩⟩
 have hfn:∀ h:Heap,(∀ a o,W.F a=some o->h.get? a=some o)->eH fn h:=fun h k=>by obtain ⟨_,_,_,_,_,ob,_,_,_,_,_,_,_,_,_,z3,z4,_⟩:=f4;have z3:=k _ _ z3;obtain ⟨oc,od,dt,sl⟩:=ob;dsimp only at z4;subst z4;exact ⟨oc,od,_,sl,z3⟩
 refine DW kl abD (by rfl) (by decide) yK (hfn _ RO.sub) rfl (by decide) rfl w2.ok ?_;refine aR (bO ?_) rfl;refine aZ ⟨hfn _ RO.sub,?_⟩;have t3:Qk J [] W Qg W {Qg with toks:=Qg.toks+1+1+1}:=Qk.toks RO;refine Ex.into (Hd fx Qr f4 f5 f6 f7 h2 t3.ok (QY.le (by omega))) fun v W4 s4 k4 z0=>?_;obtain ⟨Uz,rv⟩:=z0;have R4:=R.expr (t3.Qi k4);refine af (R4.store (x:="ch") (d:= .str (cs.take 1)) (by decide) rfl rv) (fun _ s5 z1=>?_) fun _ _ f=>f;obtain ⟨_,R5⟩:=z1;have Rl:=CC h1 h2;have h14:W4.H[i]? =some (.lex ln (some j) pb):=by rw [Uz,FO Rl];exact h1
 have ha4:=k4.as _ _ ha;have ht:ceT P0 9 QV.scope ((⟨QV.params.zip [D.loc i],[],none⟩:St).withRho (("ch",.str (cs.take 1))::QV.params.zip [D.loc i])) (.Compare (.Name "ch" ⟨130,11,130,13⟩) [.Eq] [(.Constant (.str "\n") 0 ⟨130,17,130,21⟩)] ⟨130,11,130,21⟩) W4.H=some (cs.take 1==[10],W4.H):=by rfl'
 refine ao (fC (Ex.into (Qr.t ht rfl R5.ok R5.R (QY.le (by omega))) fun b W6 s6 k6 z2=>?_));obtain ⟨hb,hg6⟩:=z2;subst hb;have R6:=R5.expr k6;have fin:∀ W7 s7,Qk J [] W6 s6 W7 s7->aD (aC P0 J.w) (A.deeper env) (gg [(.Return (some (.Name "ch" ⟨132,15,132,17⟩)) ⟨132,8,132,17⟩)] env)
   (fun f s'=>∃ v,(.ok (.ret (match f with | .ret v=>v | _=> .none)):iy)= .ok (.ret v)/\∃ W',Qk J [] W s W' s'/\li J (.str (cs.take 1)) W7.H v W' s') (fun _ _=>False) s7:=fun W7 s7 k7=>by
  have R7:=R6.expr k7;obtain ⟨v7,hv7,r7⟩:=R7.R.vars "ch" (.str (cs.take 1)) (by rfl');refine ao (cm (bq (db hv7 R7.R.kind (by decide) ?_) (by decide)));exact ⟨_,rfl,W7,R7.tr,rfl,r7⟩
 have h16:W6.H[i]? =some (.lex ln (some j) pb):=by rw [hg6];exact h14
 have ha6:=(k6.as _ _ ha4)
 by_cases hc:cs.take 1=[10]
 ·rw [hc];rw [hc] at fin;obtain ⟨v6,hv6,r6⟩:=R6.R.vars "self" (.loc i) (by rfl');have r6':=tA ha6 r6;subst r6';obtain ⟨dA',pA',iv',t',u',SP,Xh,ae1,aeP,Xt,Vm,e4',e5',e6',e8',V0⟩:=pM R6.ok h16 ha6;refine ao (wpAny_AugAssign_AttributeAny (bq (db hv6 R6.R.kind (by decide) ?_) (by decide)));refine uu kl V0 (by rfl) rfl (by decide) sd R6.ok ?_;refine bO ?_;have t7:Qk J [] W6 s6 W6 {s6 with toks:=s6.toks+1+1}:=Qk.toks R6.ok;refine Ex.into (wQ (X:=[]) (op:= .Add) (a:= .int ln) (b:= .int 1) (d:= .int (ln+1)) rfl (by dsimp only [Rd];exact ⟨_,rfl⟩) (by dsimp only [Rd];exact ⟨_,rfl⟩) t7.ok) fun v8 W8 s8 k8 z3=>?_;obtain ⟨ZI,r8⟩:=z3;dsimp only [Rd] at r8;obtain ⟨t8,rfl⟩:=r8;have h18:W8.H[i]? =some (.lex ln (some j) pb):=by rw [ZI];exact h16
  refine Ex.into (G5 (t':=t8) (ln':=ln+1) kl k8.ok h18 (k8.as _ _ ha6)) fun _ W9 s9 k9 y0=>?_;obtain ⟨VT,_⟩:=y0;refine aW ?_;have q:W9.H=(xM W.H j cs).set i (.lex (ln+1) (some j) pb):=by rw [VT,ZI,hg6,Uz]
  rw [<-q];exact fin W9 s9 ((t7.Qi k8).Qi k9)
 ·rw [if_neg hc];have hb:(cs.take 1==[10])=false:=by simpa using hc
  rw [hb];refine aW ?_;have q:W6.H=xM W.H j cs:=by rw [hg6,Uz]
  rw [<-q];exact fin W6 s6 (Qk.refl R6.ok)
theorem GM:∀ {f:Addr} {i:Nat} {d:D} {g2:G} {a:Addr} (fx:Fx J) (kl:Kl J) (Qr:Ok J 9) (Qz:FnAt J (F0 J) f QV) (h:wv W.H i=some (d,g2)) (ha:W.as[i]? =some a) (hw:Qn J W s) (hA:Qs 12 A),Ex J A (call (.ref f) [.ref a]) [] W s (li J d g2):=by iterate 13 exact (eV (cP (we fx kl Qr Qz h ha hw hA) fun _ _ z5=>by obtain ⟨_,e,h⟩:=z5;subst e;exact h))
end
theorem Ey:bI (.type "object") (bB "push_token")=pure none:=by iterate 0 rw [bM,bp];rfl'
theorem xX:bI (.type "object") (bB "_read_char")=pure none:=by iterate 0 rw [bM,bp];rfl'
theorem A0:bI (.type "object") (bB "get_token")=pure none:=by iterate 0 rw [bM,bp];rfl'
theorem xo:∀ {m:Str} {i:Nat} {ds:List D} {d:D} {g g2:G} (h:methD m (.loc i) ds g=some (d,g2)),(ds=[]/\((m="get_token" /\wU g i=some (d,g2))\/(m="_read_char" /\wv g i=some (d,g2))))\/
  (∃ d1,ds=[d1]/\((m="push_token" /\∃ ln src l,g[i]? =some (.lex ln src l)/\l.length<lim/\d= .none/\g2=g.set i (.lex ln src (l++[d1])))\/m="pop")):=by iterate 7
 cases ds with
 | nil=>
  refine .inl ⟨rfl,?_⟩;replace h:vI m g i=some (d,g2):=h;unfold vI at h;split at h
  ·rename_i q;exact .inl ⟨eq_of_beq q,h⟩
  ·split at h
   ·rename_i q;exact .inr ⟨eq_of_beq q,h⟩
   ·cases h
 | cons d1 r=>
  replace h:=bi h;obtain ⟨_,h1,h⟩:=h;cases oU h1;refine .inr ⟨d1,rfl,?_⟩;split at h
  ·rename_i q;replace h:=qI h;obtain ⟨o,e,⟨ln,src,l⟩,h2,h⟩:=h;cases sV h2;split at h
   ·rename_i hl;cases h;exact .inl ⟨eq_of_beq q,ln,src,l,e,hl,rfl,rfl⟩
   ·cases h
  ·split at h
   ·rename_i q;exact .inr (eq_of_beq q)
   ·cases h
section
variable {J:Cx} {A:bf} {W W0:Wd} {s s0:ah} {X:List Addr} {sc:aX} {env:Env}
theorem um:∀ {m:Str} {fn:Fn} {i:Nat} {ds:List D} {g1:G} {ov:ag} {o:Expr} {apos pos:Pos} {k:Nat} {trees:List (Bool×Sem ag)} {P:ag->Wd->ah->Prop} (kl:Kl J) (hf:wm (pu P0 "_netrclex") m=some fn) (hm:∀ ln iv ws pA,tN ln iv ws pA m=none) (hB:bI (.type "object") m=pure none) (Q5:∃ ln src pb,g1[i]? =some (.lex ln src pb)) (Vf:W.H[i]?.map kindOf=g1[i]?.map kindOf) (r:Rd J W.F W.as (.loc i) ov) (hw:Qn J W s) (hp:trees.any (·.1)=false) (hk:k<30) (hl:(apos.endLine==pos.line)=true) (ht:Ex J A (eM trees) [] W s (fun vs W' _=>W'.H=g1/\Qo J W'.F W'.as ds vs)) (run:∀ f a W1 s1 vs,FnAt J (F0 J) f fn->W1.H=g1->W1.as[i]? =some a->Qo J W1.F W1.as ds vs->Qn J W1 s1->Ex J A (call (.ref f) (.ref a::vs)) [] W1 s1 P),Ex J A (eG o m apos pos env ov k trees []) [] W s P:=by iterate 25 obtain ⟨ln1,adV,pb1,e1⟩:=Q5;obtain ⟨ln,src,pb,e0⟩:=Fp Vf e1;dsimp only [Rd] at r;obtain ⟨a,rfl,ha⟩:=r;obtain ⟨dA,pA,iv,t,u,vs,Xh,TZ,UM,_,hd,e4,e5,e6,e8,hI⟩:=pM hw e0 ha;refine EQ kl hf hI (hm _ _ _ _) hB hp hk hl hw (fun f Qz=>Ex.into ht fun vs W1 s1 k1 y0=>?_);obtain ⟨hg,rv⟩:=y0;refine ⟨k1.ok.Qw,?_⟩;exact Ex.into (run f a W1 s1 vs Qz hg (k1.as _ _ ha) rv k1.ok) fun v W2 s2 k2 p=>⟨W2,k1.Qi k2,p⟩
theorem Gv:∀ {n:Nat} {m:Str} {i:Nat} {ds:List D} {d:D} {g1 g2:G} {o:Expr} {apos pos:Pos} {k:Nat} {trees:List (Bool×Sem ag)} {ov:ag} (fx:Fx J) (kl:Kl J) (Qr:10<=n->Ok J 9) (VS:m≠"get_token") (h:methD m (.loc i) ds g1=some (d,g2)) (XP:Ki m<=n) (Vf:W.H[i]?.map kindOf=g1[i]?.map kindOf) (r:Rd J W.F W.as (.loc i) ov) (hw:Qn J W s) (hA:Qs n A) (hp:trees.any (·.1)=false) (hk:k<30) (hl:(apos.endLine==pos.line)=true) (ht:Ex J A (eM trees) [] W s (fun vs W' _=>W'.H=g1/\Qo J W'.F W'.as ds vs)),Ex J A (eG o m apos pos env ov k trees []) [] W s (li J d g2):=by iterate 27
 rcases xo h with ⟨rfl,⟨q,_⟩ | ⟨rfl,h1⟩⟩ | ⟨d1,rfl,⟨rfl,ln,src,l,e1,hl1,rfl,rfl⟩ | rfl⟩
 ·exact absurd q VS
 ·have hn:15<=n:=XP;obtain ⟨ln,j,pb,cs,e1,_,_,_⟩:=wz h1;refine um kl yE (fun _ _ _ _=>by rfl) xX ⟨_,_,_,e1⟩ Vf r hw hp hk hl ht fun f a W1 s1 vs Qz hg ha rv RO=>?_;rw [sI rv];subst hg;exact GM fx kl (Qr (by omega)) Qz h1 ha RO (hA.le (by omega))
 ·have hn:10<=n:=XP;refine um kl DS (fun _ _ _ _=>by rfl) Ey ⟨_,_,_,e1⟩ Vf r hw hp hk hl ht fun f a W1 s1 vs Qz hg ha rv RO=>?_;obtain ⟨v,rfl,rv'⟩:=qC rv;subst hg;exact Gb fx kl Qz e1 hl1 ha rv' RO (hA.le (by omega))
 ·exact Go h Vf r hw hp hk hl ht
end
theorem vj:Slot "callable_iterator" "__iter__" "callable_iterator.__iter__" :=by iterate 0
 exact (.of (owner:="callable_iterator") (n:="__iter__") (by rw [bM,bp];rfl') (by decide+kernel) (by decide+kernel) (by decide+kernel)
  (by first | exact .inl (by decide+kernel) | exact .inr (by decide+kernel)) (by rw [isSubtype_type];rfl'))
theorem QE:Slot "callable_iterator" "__next__" "callable_iterator.__next__" :=by iterate 0
 exact (.of (owner:="callable_iterator") (n:="__next__") (by rw [bM,bp];rfl') (by decide+kernel) (by decide+kernel) (by decide+kernel)
  (by first | exact .inl (by decide+kernel) | exact .inr (by decide+kernel)) (by rw [isSubtype_type];rfl'))
theorem sk:entryFor table "callable_iterator.__next__" =some ie.«callable_iterator.__next__» :=by iterate 0 exact (nP (by rfl'))
theorem A4:Manifest.owners.lookup (String.ofList ['r','o','t','a','r','e','t','i','_','e','l','b','a','l','l','a','c'].reverse)=some Manifest.sig_callable_iterator:=by iterate 0 rfl'
theorem yr:entryFor table "callable_iterator.__iter__" =some ie.«dict_keyiterator.__iter__» :=by iterate 0 exact (entryFor_alias (id':="dict_keyiterator.__iter__") (by rfl') (by decide+kernel) (by decide+kernel) (by rfl'))
theorem sT:∀ (a:ag),argsOk "callable_iterator.__next__" ⟨[a],[]⟩:=by iterate 1 unfold argsOk;rw [signature?_of (id:="callable_iterator.__next__") (n:=['_','_','t','x','e','n','_','_']) (o:=['r','o','t','a','r','e','t','i','_','e','l','b','a','l','l','a','c']) (by rfl') A4];rfl'
theorem zE:∀ (a:ag),argsOk "callable_iterator.__iter__" ⟨[a],[]⟩:=by iterate 1 unfold argsOk;rw [signature?_of (id:="callable_iterator.__iter__") (n:=['_','_','r','e','t','i','_','_']) (o:=['r','o','t','a','r','e','t','i','_','e','l','b','a','l','l','a','c']) (by rfl') A4];rfl'
noncomputable abbrev rS (M:ag) (sv:ag) (e:Bool):Obj:={cls:= .type "callable_iterator",data:= .fields #[M,sv,.bool e]}
noncomputable abbrev p8 (f a:Addr):Obj:={cls:= .type "method",data:= .fields #[.ref f,.ref a]}
section
variable {prog:bY} {w:jl} {A:bf} {E:ag->ah->Prop} {s:ah} {I M f a:Addr} {tk:Tok}
theorem Jb:∀ {sv Mv:ag} {e:Bool} {Q:ag->ah->Prop} (hI:s.heap.get? I=some (rS Mv sv e)) (h:Q (.ref I) s),aD (aC prog w) A (kz (.ref I)) Q E s:=by iterate 6 refine wpAny_pyIter_slot ⟨_,hI,rfl⟩ vj (eh vj ⟨_,hI,rfl⟩ yr ?_ (zE _));exact ay ⟨_,rfl,"callable_iterator",_,⟨_,hI,rfl⟩,QE.lookup,h⟩
theorem xB:∀ {f:Addr} {pos:List ag} {R:iy->ah->Prop} (hb:s.heap.get? M=some (p8 f a)) (hq:bQ (aC prog w) A (.call (.ref f) ⟨.ref a::pos,[]⟩) R s),bQ (aC prog w) A (.call (.ref M) ⟨pos,[]⟩) R s:=by iterate 5 refine codeAny_of_tree ?_;show aD _ A.in1 (callAny (.ref M) ⟨pos,[]⟩) _ _ _;unfold callAny;refine ae (wpAny_load hb ?_);exact ay ⟨rfl,hq⟩
theorem ru:∀ {M:Model} {f:ag} {pos:List ag} {Q:ag->ah->Prop} (hc:bQ M A (.call f ⟨pos,[]⟩) (fun r s'=>match r with | .ok (.ret v)=>Q v s' | .ok _=>False | .error e=>E e s') s),aD M A (callBorrowed f pos) Q E s:=by iterate 5
 exact (fun J p hΓ=>by
 unfold callBorrowed;rw [Sem.wp_call];refine cP hc (fun r s' h=>?_) _ p rfl (hΓ.enter _ none p (by intro x;cases x));cases r with
 | error e=>exact h
 | ok f=>cases f<;>first | exact h | exact h.elim)
theorem zn:∀ {f:Addr} {fd:eO} {o:Obj} {Q:Bool->ah->Prop} (hM:s.heap.get? M=some (p8 f a)) (hf:s.heap.get? f=some o) (hd:o.data= .func fd) (h:Q true s),aD (aC prog w) A (borrowsExactly (.ref M)) Q E s:=by iterate 8
 obtain ⟨cls,QC,data,sl⟩:=o;simp only at hd;subst hd;obtain ⟨hp,g,d,t,os⟩:=s;unfold borrowsExactly;repeat (first | (with_reducible refine mI hM ?_) | (with_reducible refine mI hf ?_) | wp_step)
 exact h
theorem zT:∀ {fd:eO} {o:Obj} {sv:Str} {u:Tok} {Q:Option ag->ah->Prop} (hI:s.heap.get? I=some (rS (.ref M) (.str sv u) false)) (hM:s.heap.get? M=some (p8 f a)) (hf:s.heap.get? f=some o) (hd:o.data= .func fd) (hc:bQ (aC prog w) A.in1 (.call (.ref f) ⟨[.ref a],[]⟩) (fun r s'=>∃ c t,r= .ok (.ret (.str c t))/\c≠sv/\s'.heap.get? I=some (rS (.ref M) (.str sv u) false)/\Q (some (.str c t)) s') s),aD (aC prog w) A (eF (.ref I)) Q E s:=by iterate 10
 unfold eF;refine ae (fB (dv (name:=bB "__next__") ⟨_,hI,rfl⟩ QE
  (eh QE ⟨_,hI,rfl⟩ sk ?_ (sT _))))
 show aD _ _ (lI (.ref I) 2 >>=_) _ _ s;refine ae (dX hI rfl (x:= .bool false) rfl ?_);show aD _ _ (if (bJ false==bJ true)=true then _ else _) _ _ s;rw [if_neg (show ¬ ((bJ false==bJ true)=true) from aJ)];show aD _ _ (lI (.ref I) 0 >>=_) _ _ s;refine ae (dX hI rfl (x:= .ref M) rfl ?_);refine ae (fB ?_);unfold callOutOfASlot;refine ae (zn hM hf hd ?_);rw [if_pos rfl];refine ru (xB hM ?_);refine cP hc fun r s' z0=>?_;obtain ⟨c,t,hr,Rl,V0,hq⟩:=z0;subst hr;show aD _ _ (lI (.ref I) 2 >>=_) _ _ s';refine ae (dX V0 rfl (x:= .bool false) rfl ?_);show aD _ _ (if (bJ false==bJ true)=true then _ else _) _ _ s';rw [if_neg (show ¬ ((bJ false==bJ true)=true) from aJ)];show aD _ _ (lI (.ref I) 1 >>=_) _ _ s';refine ae (dX V0 rfl (x:= .str sv u) rfl ?_);refine ae (bu (nO ?_));rw [decide_eq_false (dz Rl)];exact ae (ay (ay ⟨_,rfl,ay hq⟩))
theorem wJ:∀ {α:Type} {P:α->ah->Prop} {Q:Option ag->ah->Prop} (hh:A.handled=none) (hq:∀ h',(∀ b o,s.heap.get? b=some o->h'.get? b=some o)->Q none {s with heap:=h'}),aD (aC prog w) A.in1 (lZ:Sem α) P
   (fun e s'=>aD (aC prog w) A (do if <-isInstance e (.type "StopIteration") then pure none else throw e) Q E s') s:=by iterate 5
 show aD _ _ (newExc (.type "StopIteration") [] >>=_) _ _ _;refine ae ?_;simp only [newExc,newTuple];refine ae (dj ?_ (by size_fits));refine ae (m:=iM _ _) (gb (a:=iI) (by first | rfl | (simp only [iM];rfl)) ?_);refine dj ?_ (by size_fits);unfold raiseNew;refine ae (wpAny_handled ?_);rw [show A.in1.handled=none from hh];refine ae (ay (wpAny_throw ?_));refine ae (nM (T:="StopIteration") (b:=true) ⟨_,ax _ rfl,rfl⟩ isSubtype_stop ?_);exact ay (hq _ fun b o e=>aF _ (aF _ e))
theorem zJ:∀ {Q:Option ag->ah->Prop} (hh:A.handled=none) (hI:s.heap.get? I=some (rS .none .none true)) (hq:∀ h',(∀ b o,s.heap.get? b=some o->h'.get? b=some o)->Q none {s with heap:=h'}),aD (aC prog w) A (eF (.ref I)) Q E s:=by iterate 4
 unfold eF;refine ae (fB (dv (name:=bB "__next__") ⟨_,hI,rfl⟩ QE
  (eh QE ⟨_,hI,rfl⟩ sk ?_ (sT _))))
 show aD _ _ (lI (.ref I) 2 >>=_) _ _ s;refine ae (dX hI rfl (x:= .bool true) rfl ?_);show aD _ _ (if (bJ true==bJ true)=true then _ else _) _ _ s;rw [if_pos (show ((bJ true==bJ true)=true) from rfl)];refine ae (ll (ae ?_));exact af (wJ (P:=fun _ _=>False) hh hq) (fun _ _ h=>h.elim) fun _ _ h=>h
theorem KW:∀ {fd:eO} {o:Obj} {who:String} {busy:Code->Bool} {Q:Unit->ah->Prop} (hM:s.heap.get? M=some (p8 f a)) (hf:s.heap.get? f=some o) (hd:o.data= .func fd) (h:Q () s),aD (aC prog w) A (slotLetsGo who (.ref M) busy) Q E s:=by iterate 9 unfold slotLetsGo;refine ae (zn hM hf hd ?_);exact ay h
theorem A9:∀ {fd:eO} {o:Obj} {sv:Str} {u:Tok} {Q:Option ag->ah->Prop} (hh:A.handled=none) (hI:s.heap.get? I=some (rS (.ref M) (.str sv u) false)) (hM:s.heap.get? M=some (p8 f a)) (hf:s.heap.get? f=some o) (hd:o.data= .func fd) (hc:bQ (aC prog w) A.in1 (.call (.ref f) ⟨[.ref a],[]⟩) (fun r s'=>∃ t,r= .ok (.ret (.str sv t))/\s'.heap.get? I=some (rS (.ref M) (.str sv u) false)/\s'.heap.get? M=some (p8 f a)/\s'.heap.get? f=some o/\
   ∀ h',(∀ b o,b≠I->s'.heap.get? b=some o->h'.get? b=some o)->h'.get? I=some (rS .none .none true)->Q none {s' with heap:=h'}) s),aD (aC prog w) A (eF (.ref I)) Q E s:=by iterate 11
 unfold eF;refine ae (fB (dv (name:=bB "__next__") ⟨_,hI,rfl⟩ QE
  (eh QE ⟨_,hI,rfl⟩ sk ?_ (sT _))))
 show aD _ _ (lI (.ref I) 2 >>=_) _ _ s;refine ae (dX hI rfl (x:= .bool false) rfl ?_);show aD _ _ (if (bJ false==bJ true)=true then _ else _) _ _ s;rw [if_neg (show ¬ ((bJ false==bJ true)=true) from aJ)];show aD _ _ (lI (.ref I) 0 >>=_) _ _ s;refine ae (dX hI rfl (x:= .ref M) rfl ?_);refine ae (fB ?_);unfold callOutOfASlot;refine ae (zn hM hf hd ?_);rw [if_pos rfl];refine ru (xB hM ?_);refine cP hc fun r s' z1=>?_;obtain ⟨t,hr,V0,hM',Xh,hq⟩:=z1;subst hr;show aD _ _ (lI (.ref I) 2 >>=_) _ _ s';refine ae (dX V0 rfl (x:= .bool false) rfl ?_);show aD _ _ (if (bJ false==bJ true)=true then _ else _) _ _ s';rw [if_neg (show ¬ ((bJ false==bJ true)=true) from aJ)];show aD _ _ (lI (.ref I) 1 >>=_) _ _ s';refine ae (dX V0 rfl (x:= .str sv u) rfl ?_);refine ae (bu (nO ?_));rw [decide_eq_true rfl];refine ae (ll (ae ?_));show aD _ _ (lI (.ref I) 0 >>=_) _ _ s';refine ae (dX V0 rfl (x:= .ref M) rfl ?_);refine ae (KW hM' Xh hd ?_);refine ae (je V0 (by simp) fun h1 q1 k1=>?_);refine ae (je q1 (by simp) fun h2 q2 k2=>?_);refine je q2 (by simp) fun h3 q3 k3=>?_;have kk:∀ b o,b≠I->s'.heap.get? b=some o->h3.get? b=some o:=fun b o hb e=>(k3.2 b hb).trans ((k2.2 b hb).trans ((k1.2 b hb).trans e));exact af (wJ (P:=fun _ _=>False) hh fun h' k=>hq h' (fun b o hb e=>k b o (kk b o hb e)) (k _ _ (by simpa using q3))) (fun _ _ h=>h.elim) fun _ _ h=>h
end
end MP.Lake
set_option maxRecDepth 100000
namespace MP.Lake
open PySem PyProof.Rows Builtin Builtin.ObjectAttr
theorem D2:bI (.type "function") "__get__" =pure (some (.builtin "function.__get__")):=by iterate 0 rw [bM,bp];rfl'
theorem Em:bI (.type "function") "__set__" =pure none:=by iterate 0 rw [bM,bp];rfl'
theorem DQ:bI (.type "function") "__delete__" =pure none:=by iterate 0 rw [bM,bp];rfl'
section
variable {prog:bY} {w:jl} {A:bf} {E:ag->ah->Prop} {h:Heap} {g:Array di} {d:Drawn} {t:Nat} {os:kD}
variable {nm q:Str} {C N x f:Addr} {bs:List ag} {sn:List Str} {sub:List ag} {ab:Bool} {col:Option Bool} {dd:Option Addr} {k0 k1 k2 k3 k5:Option ag} {newId:String}
 {mN mA:Str->Option ag} {name:Str} {v:ag} {fo:Obj}
theorem Ci:∀ {tk:Tok} {Q:Fin->ah->Prop} (hC:h.get? C=some (hZ nm q C N bs [.type "object"] true sn sub ab col dd k0 k1 k2 k3 k5 newId)) (hn:h.Ns N mN) (XO:mN name=some (.ref f)) (VC:h.get? f=some fo) (XT:fo.cls= .type "function") (Yq:mN "__getattr__" =none) (hB:bI (.type "object") name=pure none) (I:h.Inst x C mA) (hv:mA name=none) (UN:(["__module__","__name__","__qualname__","__doc__","__annotations__"]:List Str).contains name=false) (hq:Q (.done (.ret (.ref h.objs.size))) ⟨h.push (p8 f x),g,d,t,os⟩),aD (aC prog w) A (ie.«proto.getattr_hooked» ⟨[.ref x,.str name tk],[]⟩) Q E ⟨h,g,d,t,os⟩:=by iterate 13
 obtain ⟨o,hx,hc,hnc,hd⟩:=id I;have hT:(⟨h,g,d,t,os⟩:ah).TypeIs (.ref f) "function" :=⟨fo,VC,XT⟩
 unfold ie.«proto.getattr_hooked»;repeat (first | (with_reducible refine d8 hx ?_;rw [hc]) | (with_reducible refine dg hC hn gr hB ?_;rw [XO]) | (with_reducible refine f9 hT D2 ?_) | (with_reducible refine f9 hT Em ?_) | (with_reducible refine f9 hT DQ ?_) | wp_step)
 split
 ·rename_i c RC;exact absurd RC (hnc c)
 unfold instanceDict;repeat (first | (with_reducible refine d8 hx ?_;rw [hc]) | with_reducible refine d8 hC ?_ | wp_step)
 have tail:aD (aC prog w) A (do iH name (ef x);byTheClass (some (.ref f)) (some (Value.builtin "function.__get__"))) (fun a s'=>aD (aC prog w) A
      (match a with
      | Found.value v=>ret v
      | Found.missing=>do
       let __do_lift <-bI (ef C) (bB "__getattr__")
       missingOrHook (ef x) (ix name tk) name __do_lift
      | Found.bind g a=>do
       let __do_lift <-bI (ef C) (bB "__getattr__")
       bindWithHook g a (ef x) (ef C) (ix name tk) __do_lift) Q E s') E {heap:=h,gens:=g,drawn:=d,toks:=t,os:=os}:=by
  have cg:iH name (.ref x)=pure ():=by unfold iH;dsimp only;rw [if_neg (by rw [UN];exact aJ)]
  rw [cg];repeat (first | (with_reducible refine dg hC hn gr mu ?_;rw [Yq]) | wp_step)
  refine my j6.plain PySem.W.KF.entry_fn (j6.check _ _ _ _ _ _ _ _ ⟨fo,VC,XT⟩ (PySem.W.KF.args_fn _ _ _) ?_);repeat k_node
  exact hq
 rcases hd with ⟨hd,_⟩ | ⟨dx,ZL,Rl,RZ⟩
 ·rw [hd];show aD _ _ (if (!false ||!typeHasDict (ef C))=true then pure none else _) _ _ _;rw [if_pos (by rfl)];exact ay (ay tail)
 rw [ZL];refine ay ?_;show aD _ _ (nsGet dx name) _ _ _;refine wpAny_nsGet (s:=⟨h,g,d,t,os⟩) RZ.ns ?_;rw [hv];exact tail
theorem DE:∀ {expr:Bool} {Q:ag->ah->Prop} (hC:h.get? C=some (hZ nm q C N bs [.type "object"] true sn sub ab col dd k0 k1 k2 k3 k5 newId)) (hn:h.Ns N mN) (hng:mN "__getattribute__" =none) (XO:mN name=some (.ref f)) (VC:h.get? f=some fo) (XT:fo.cls= .type "function") (Yq:mN "__getattr__" =none) (hB:bI (.type "object") name=pure none) (I:h.Inst x C mA) (hv:mA name=none) (UN:(["__module__","__name__","__qualname__","__doc__","__annotations__"]:List Str).contains name=false) (hq:Q (.ref h.objs.size) ⟨h.push (p8 f x),g,d,t+1,os⟩),aD (aC prog w) A (mP (.ref x) name expr) Q E ⟨h,g,d,t,os⟩:=by iterate 14
 obtain ⟨o,hx,hc,_⟩:=id I;unfold mP getAttrBy;repeat (first | (with_reducible refine d8 hx ?_;rw [hc]) | (with_reducible refine dg hC hn gr oE ?_;rw [hng]) | wp_step)
 show aD _ _ ((runValue (.builtin "proto.getattr_hooked" ⟨[.ref x,.str name t],[]⟩)).onRaise (noteIf true (.ref x) (.str name t))) _ _ _;refine lE (wpAny_runValue (codeAny_builtin jr (Ci hC hn XO VC XT Yq hB I hv UN ?_)));show aD _ _ (kB (.ref h.objs.size)) _ _ _;exact ay hq
end
theorem D6:∃ r,bI (.type "method") "__call__" =pure (some r):=by iterate 0 exact (⟨.builtin "method.__call__",by rw [bM,bp];rfl'⟩)
theorem Bv:plainId "iter" =true:=by iterate 0 decide+kernel
theorem B5:entryFor table "iter" =some ie.«iter» :=by iterate 0 exact (nP (by rfl'))
theorem Cg:∀ (a b:ag),checkBuiltinCall "iter" ⟨[a,b],[]⟩=pure ():=by iterate 2 rfl'
section
variable {prog:bY} {w:jl} {A:bf} {E:ag->ah->Prop} {s:ah} {M f a:Addr}
theorem Ea:∀ {sv:ag} {Q:ag->ah->Prop} (hM:s.heap.get? M=some (p8 f a)) (hq:Q (.ref s.heap.objs.size) {s with heap:=s.heap.push (rS (.ref M) sv false)}),aD (aC prog w) A (call (.builtin "iter") [.ref M,sv]) Q E s:=by iterate 4
 refine eV (my Bv B5 ?_);rw [Cg];refine ay ?_;obtain ⟨r,hr⟩:=D6;obtain ⟨h,g,d,t,os⟩:=s;have hT:(⟨h,g,d,t,os⟩:ah).TypeIs (.ref M) "method" :=⟨_,hM,rfl⟩
 unfold ie.«iter»;repeat (first | (with_reducible refine f9 hT hr ?_) | wp_step)
 exact hq
end
end MP.Lake
namespace MP.Lake
open PySem PyProof.Rows
noncomputable def rh:aX:=(.mk .function [("self",.local),("token",.local),("fiter",.local),("ch",.local),("iter",.globalImplicit)] false false [])
noncomputable def lg (g:G) (i j:Nat) (ln:Int) (cs:List Nat):G:=(g.set j (.sg cs)).set i (.lex ln (some j) [])
theorem Ad:∀ {g:G} {i j:Nat} {ln:Int} {cs:List Nat} (hi:i<g.length) (hj:j<g.length) (Rl:j≠i),wv (lg g i j ln cs) i=match cs with | []=>some (.str [],lg g i j ln []) | c::r=>some (.str [c],lg g i j (oX ln c) r):=by iterate 8
 have e1:(lg g i j ln cs)[i]? =some (.lex ln (some j) []):=by unfold lg;rw [gP (by simpa using hi)]
 have e2:(lg g i j ln cs)[j]? =some (.sg cs):=by unfold lg;rw [kZ (dz Rl),gP hj]
 unfold wv;rw [e1,bz,show yF (.lex ln (some j) [])=some (ln,some j,[]) from rfl,bz,bz,e2,bz,show Bf (.sg cs)=some cs from rfl,bz];cases cs with
 | nil=>rfl
 | cons c r=>
  have e3:(lg g i j ln (c::r)).set j (.sg r)=lg g i j ln r:=by unfold lg;rw [List.set_comm _ _ (dz Rl),gZ]
  dsimp only;rw [e3];by_cases hc:c=10
  ·rw [if_pos hc,oX,if_pos hc];unfold lg;rw [gZ]
  ·rw [if_neg hc,oX,if_neg hc]
structure TC where
 i:Nat
 j:Nat
 I:Addr
 M:Addr
 f:Addr
 a:Addr
 u:Tok
 g:G
theorem mm4:Nonempty TC:=by iterate 0 exact (⟨⟨default,default,default,default,default,default,default,default⟩⟩)
structure TI (J:Cx) (W0:Wd) (s0:ah) (env:Env) (C:TC) (st:St) (ln:Int) (cs:List Nat) (e:Bool) (W:Wd) (s:ah):Prop where
 run:∃ B,Run J W0 s0 B rh env st [] W s
 H:W.H=lg C.g C.i C.j ln cs
 ap:Apart J W s.heap C.I
 it:s.heap.get? C.I=some (if e then rS .none .none true else rS (.ref C.M) (.str "" C.u) false)
 hM:W.F C.M=some (p8 C.f C.a)
 fr:C.I∉am env/\s0.heap.get? C.I=none
 as:W.as[C.i]? =some C.a
 lt:C.i<C.g.length/\C.j<C.g.length/\C.j≠C.i
section
variable {J:Cx} {A:bf} {W W0 W':Wd} {s s0 s':ah} {X:List Addr} {env:Env} {C:TC} {st st':St} {ln ln':Int} {cs cs':List Nat} {e:Bool}
theorem TI.ok:∀ (T:TI J W0 s0 env C st ln cs e W s),Qn J W s:=by iterate 1 obtain ⟨_,r⟩:=T.run;exact r.ok
theorem TI.rep:∀ (T:TI J W0 s0 env C st ln cs e W s),Ql J W s.heap rh st env []:=by iterate 1 obtain ⟨_,r⟩:=T.run;exact r.R
theorem TI.tr:∀ (T:TI J W0 s0 env C st ln cs e W s),Qk J [] W0 s0 W s:=by iterate 1 obtain ⟨_,r⟩:=T.run;exact r.tr
theorem TI.expr:∀ (T:TI J W0 s0 env C st ln cs e W s) (t:Qk J [] W s W' s') (h:W'.H=lg C.g C.i C.j ln' cs'),TI J W0 s0 env C st ln' cs' e W' s':=by iterate 3 obtain ⟨B,r⟩:=T.run;exact ⟨⟨B,r.expr t⟩,h,T.ap.keep t,T.ap.at t (by simp) _ T.it,t.le _ _ T.hM,T.fr,t.as _ _ T.as,T.lt⟩
theorem TI.store:∀ {x:Str} {v:ag} {d:D} (T:TI J W0 s0 env C st ln cs e W s) (hx:pK rh x=true) (Tz:oO st x=true) (rd:Rd J W.F W.as d v),aD (aC P0 J.w) A (gV env x v) (fun _ s'=>TI J W0 s0 env C (st.withRho ((x,d)::st.ρ)) ln cs e W s') (fun _ _=>False) s:=by iterate 7 obtain ⟨B,r⟩:=T.run;exact af (r.store hx Tz rd) (fun _ s2 z0=>by obtain ⟨k,r2⟩:=z0;exact ⟨⟨B,r2⟩,T.H,T.ap.keep k,T.ap.at k T.fr.1 _ T.it,T.hM,T.fr,T.as,T.lt⟩) fun _ _ f=>f
theorem TI.forget:∀ (T:TI J W0 s0 env C st ln cs e W s) (hv:∀ x d,varD rh st' x=some d->varD rh st x=some d) (ho:st'.own=st.own),TI J W0 s0 env C st' ln cs e W s:=by iterate 3 obtain ⟨B,r⟩:=T.run;exact ⟨⟨B,{r with R:=r.R.congr hv ho}⟩,T.H,T.ap,T.it,T.hM,T.fr,T.as,T.lt⟩
theorem Qs.in1:∀ {n:Nat} (h:Qs (n+1) A),Qs n A.in1:=by iterate 2 exact (⟨h.1,by have:=h.2.1;show A.depth+n+60<_;omega,by have:=h.2.2;show A.units+1+8 * n+400<mj;omega⟩)
theorem TI.turn:∀ {Q:Option ag->ah->Prop} {E:ag->ah->Prop} (fx:Fx J) (kl:Kl J) (Qr:Ok J 9) (Qz:FnAt J (F0 J) C.f QV) (T:TI J W0 s0 env C st ln cs false W s) (hA:Qs 13 A) (Xi:cs=[]->∀ W' s',TI J W0 s0 env C st ln [] true W' s'->Q none s') (hit:∀ c r,cs=c::r->∀ W' s' v,TI J W0 s0 env C st (oX ln c) r false W' s'->Rd J W'.F W'.as (.str [c]) v->Q (some v) s'),aD (aC P0 J.w) A (eF (.ref C.I)) Q E s:=by iterate 10
 obtain ⟨fo,fd,VC,Wo,_⟩:=Qz.obj;have hw:=T.ok;have Tw:=Ad (g:=C.g) (ln:=ln) (cs:=cs) T.lt.1 T.lt.2.1 T.lt.2.2;rw [<-T.H] at Tw;cases cs with
 | nil=>
  refine A9 hA.1 T.it (hw.sub _ _ T.hM) (hw.Qw _ _ VC) Wo (cP (we fx kl Qr Qz Tw T.as hw hA.in1) fun r s' z1=>?_);obtain ⟨v,hr,W',k,hg,rv⟩:=z1;subst hr;dsimp only [Rd] at rv;obtain ⟨_,t,rfl⟩:=rv;have T1:=T.expr k hg;refine ⟨t,rfl,T1.it,T1.ok.sub _ _ T1.hM,T1.ok.Qw _ _ VC,fun h' kk hI=>Xi rfl W' _ ?_⟩;obtain ⟨B,r⟩:=T1.run;have ap:=T1.ap;have hf:C.I∉am env++[]:=by simpa using T1.fr.1
  exact ⟨⟨_,Run.start r.RT (r.tr.Rw (tk:=s'.toks) r.RT T1.fr.2 ⟨ap.1,ap.2.1,ap.2.2.1⟩ kk) (r.R.Tr (tk:=s'.toks) hf kk) r.fr r.S8⟩,T1.H,⟨ap.1,ap.2.1,ap.2.2.1,_,hI⟩,hI,T1.hM,T1.fr,T1.as,T1.lt⟩
 | cons c r=>refine zT T.it (hw.sub _ _ T.hM) (hw.Qw _ _ VC) Wo (cP (we fx kl Qr Qz Tw T.as hw hA.in1) fun r' s' z2=>?_);obtain ⟨v,hr,W',k,hg,rv⟩:=z2;subst hr;have rv':=rv;dsimp only [Rd] at rv;obtain ⟨_,t,rfl⟩:=rv;have T1:=T.expr k hg;refine ⟨_,t,rfl,fun q=>?_,T1.it,hit c r rfl W' s' _ T1 rv'⟩;have:=congrArg (fun x:Str=>x.cps.size) q;simp at this;exact absurd this (by decide)
end
noncomputable def rt (C:TC) (tok:List Nat):Lake.St:=⟨[("token",.str tok),("fiter",.raw C.I),("self",.loc C.i)],[],none⟩
noncomputable def uA (C:TC) (tok x:List Nat):Lake.St:=⟨[("ch",.str x),("token",.str tok),("fiter",.raw C.I),("self",.loc C.i)],[],none⟩
noncomputable def Hq (p1 p2 p3:Pos) (x:Str):Expr:= .Compare (.Name "ch" p1) [.Eq] [.Constant (.str x) 0 p2] p3
noncomputable def OB (p1 p2 p3 p4:Pos):Expr:= .Compare (.Name "ch" p1) [.In] [.Attribute (.Name "self" p2) "whitespace" p3] p4
noncomputable def P5 (p1 p2 ap cp ps:Pos):Stmt:= .Assign [.Name "ch" p1] (.Call (.Attribute (.Name "self" p2) "_read_char" ap) [] [] cp) ps
noncomputable def EM (p1 p2 p3:Pos):Stmt:= .AugAssign (.Name "token" p1) .Add (.Name "ch" p2) p3
noncomputable def DM (q1 q2 q3 q4 p1 p2 ap cp ps:Pos):Stmt:= .If (Hq q1 q2 q3 "\\") [P5 p1 p2 ap cp ps] [] q4
theorem OR:∀ {C:TC} {tok x:List Nat} {p1 p2 p3:Pos} {g:G},ceT P0 30 rh (uA C tok x) (Hq p1 p2 p3 "\\") g=some (x==[92],g):=by iterate 7 rfl'
theorem NK:∀ {C:TC} {tok x:List Nat} {p1 p2 p3:Pos} {g:G},ceT P0 30 rh (uA C tok x) (Hq p1 p2 p3 "\"") g=some (x==[34],g):=by iterate 7 rfl'
theorem Fv:∀ (c:Nat),decide (c∈[10,9,13,32])=qG c:=by iterate 1 unfold qG;simp only [aq,aO,or_false,Bool.decide_or,Bool.or_assoc];rfl
theorem M9:∀ {C:TC} {tok:List Nat} {c:Nat} {p1 p2 p3 p4:Pos} {g:G} {ln:Int} {src:Option Nat} {pb:List D} (e:g[C.i]? =some (.lex ln src pb)),ceT P0 30 rh (uA C tok [c]) (OB p1 p2 p3 p4) g=some (qG c,g):=by iterate 12
 have h:ceE P0 29 rh (uA C tok [c]) (.Attribute (.Name "self" p2) "whitespace" p3) g=some (.str [10,9,13,32],g):=by
  have:ceE P0 29 rh (uA C tok [c]) (.Attribute (.Name "self" p2) "whitespace" p3) g=(g[C.i]?).bind fun o=>(xC "whitespace" o).bind fun r=>some (r,g):=by rfl'
  rw [this,e];rfl
 have:ceT P0 30 rh (uA C tok [c]) (OB p1 p2 p3 p4) g=(ceE P0 29 rh (uA C tok [c]) (.Attribute (.Name "self" p2) "whitespace" p3) g).bind fun x=>(cmp P0 .In (.str [c]) x.1).bind fun b=>some (b,x.2):=by rfl'
 rw [this,h,<-Fv];rfl
noncomputable def uS (c:Nat) (cs:List Nat):List Nat:=if c=92 then cs.take 1 else [c]
noncomputable def uw (c:Nat) (cs:List Nat):List Nat:=if c=92 then cs.drop 1 else cs
noncomputable def Hm (ln:Int):List Nat->Int
| []=>ln
| c::_=>oX ln c
noncomputable def xA (c:Nat) (ln:Int) (cs:List Nat):Int:=if c=92 then Hm ln cs else ln
noncomputable def qt (stop:Nat->Bool):List Nat->List Nat->Int->Bool×List Nat×List Nat×Int
| [],acc,ln=>(false,acc,[],ln)
| c::r,acc,ln=>if stop c then (true,acc,r,oX ln c)
  else if c=92 then match r with
   | []=>(false,acc,[],oX ln c)
   | d::r'=>qt stop r' (acc++[d]) (oX (oX ln c) d)
  else qt stop r (acc++[c]) (oX ln c)
theorem rL:∀ {stop:Nat->Bool} {c:Nat} {r acc:List Nat} {ln:Int},qt stop (c::r) acc ln=if stop c=true then (true,acc,r,oX ln c) else if c=92 then kP r (false,acc,[],oX ln c) (fun d r'=>qt stop r' (acc++[d]) (oX (oX ln c) d)) else qt stop r (acc++[c]) (oX ln c):=by iterate 5 cases r<;>rfl'
theorem EU:∀ {stop:Nat->Bool} {c:Nat} {r acc:List Nat} {ln:Int} (h:stop c=false),qt stop (c::r) acc ln=qt stop (uw c r) (acc++uS c r) (xA c (oX ln c) r):=by iterate 6
 rw [rL,h];unfold uw uS xA;by_cases hc:c=92
 ·rw [if_neg aJ,if_pos hc,if_pos hc,if_pos hc,if_pos hc];cases r with | nil=>show (false,acc,[],oX ln c)=(false,acc++[],[],oX ln c);rw [aS] | cons d r'=>rfl
 ·rw [if_neg aJ,if_neg hc,if_neg hc,if_neg hc,if_neg hc]
theorem Lz:∀ (n:Nat) (cs acc:List Nat) (ln:Int),cs.length<=n->(qt (· ==34) cs acc ln).2=tz cs acc ln:=by iterate 0
 intro n;induction n with
 | zero=>intro cs acc ln h;cases cs with | nil=>rfl | cons c r=>cases h
 | succ n Qj=>
  intro cs acc ln h;cases cs with
  | nil=>rfl
  | cons c r=>
   by_cases h1:c=34
   ·rw [rL,vG,if_pos (by simpa using h1),if_pos h1]
   ·by_cases h2:c=92
    ·rw [rL,vG,if_neg (by simpa using h1),if_neg h1,if_pos h2,if_pos h2];cases r with | nil=>rfl | cons d r'=>exact Qj r' _ _ (by simp at h;omega)
    ·have e1:qt (· ==34) (c::r) acc ln=qt (· ==34) r (acc++[c]) (oX ln c):=by
      rw [rL,if_neg (by simpa using h1),if_neg h2]
     have e2:tz (c::r) acc ln=tz r (acc++[c]) (oX ln c):=by rw [vG,if_neg h1,if_neg h2]
     rw [e1,e2];exact Qj r _ _ (by simpa using h)
theorem FF:∀ (n:Nat) (cs acc:List Nat) (ln:Int),cs.length<=n->(qt qG cs acc ln).2=sD cs acc ln:=by iterate 0
 intro n;induction n with
 | zero=>intro cs acc ln h;cases cs with | nil=>rfl | cons c r=>cases h
 | succ n Qj=>
  intro cs acc ln h;cases cs with
  | nil=>rfl
  | cons c r=>
   cases h1:qG c with
   | true=>rw [rL,vE,if_pos h1,if_pos h1]
   | false=>
    have h1:¬ qG c=true:=by rw [h1];exact aJ
    by_cases h2:c=92
    ·rw [rL,vE,if_neg h1,if_neg h1,if_pos h2,if_pos h2];cases r with | nil=>rfl | cons d r'=>exact Qj r' _ _ (by simp at h;omega)
    ·have e1:qt qG (c::r) acc ln=qt qG r (acc++[c]) (oX ln c):=by
      rw [rL,if_neg h1,if_neg h2]
     have e2:sD (c::r) acc ln=sD r (acc++[c]) (oX ln c):=by rw [vE,if_neg h1,if_neg h2]
     rw [e1,e2];exact Qj r _ _ (by simpa using h)
section
variable {J:Cx} {A:bf} {W W0 W':Wd} {s s0 s':ah} {X:List Addr} {env:Env} {C:TC} {st st':St} {ln ln':Int} {cs cs' tok:List Nat} {e:Bool}
theorem so:∀ {sc:aX} {Sa:Qm} (h:∀ p∈Sa,varD sc st p.1=some p.2),∀ x d,varD sc ⟨Sa,[],none⟩ x=some d->varD sc st x=some d:=by iterate 3
 exact (fun x d e=>by
 rcases zu e with ⟨_,e⟩ | ⟨_,e⟩ | ⟨_,e⟩
 ·cases e
 ·exact h _ (al e)
 ·exact h _ (al e))
theorem TI.gi:∀ (T:TI J W0 s0 env C st ln cs e W s),W.H[C.i]? =some (.lex ln (some C.j) []):=by iterate 1 rw [T.H];unfold lg;rw [gP (by simpa using T.lt.1)]
theorem HI:∀ {q1 q2 q3 q4 p1 p2 ap cp ps:Pos} {c:Nat} (Qr:Ok J 30) (hl:(ap.endLine==cp.line)=true) (T:TI J W0 s0 env C (uA C tok [c]) ln cs false W s) (hA:Qs 30 A),aD (aC P0 J.w) A (exec (DM q1 q2 q3 q4 p1 p2 ap cp ps) env) (fun f s'=>f= .next/\∃ W',TI J W0 s0 env C (uA C tok (uS c cs)) (xA c ln cs) (uw c cs) false W' s') (fun _ _=>False) s:=by iterate 14
 unfold DM;refine fC (Ex.into (Qr.t (OR (g:=W.H)) rfl T.ok T.rep hA) fun b W1 s1 k1 z0=>?_);obtain ⟨hb,Q5⟩:=z0;subst hb;have T1:=T.expr k1 (Q5.trans T.H);by_cases hc:c=92
 ·subst hc;rw [if_pos (by simp)];have Tw:ceE P0 30 rh (uA C tok [92]) (.Call (.Attribute (.Name "self" p2) "_read_char" ap) [] [] cp) W1.H=some (.str (uS 92 cs),lg C.g C.i C.j (xA 92 ln cs) (uw 92 cs)):=by
   have h1:ceE P0 30 rh (uA C tok [92]) (.Call (.Attribute (.Name "self" p2) "_read_char" ap) [] [] cp) W1.H=(q7 ((ap.endLine==cp.line)&&true&&true)).bind fun _=>(q7 (qe W1.H (.loc C.i)==qe W1.H (.loc C.i))).bind fun _=>wv W1.H C.i:=by rfl'
   rw [h1,hl,T1.H,Ad T1.lt.1 T1.lt.2.1 T1.lt.2.2];cases cs with | nil=>simp [q7,uS,xA,uw,show ∀ l,Hm l []=l from fun _=>rfl] | cons d r=>simp [q7,uS,xA,uw,show ∀ l c r,Hm l (c::r)=oX l c from fun _ _ _=>rfl]
  refine ao (bj (Ex.into (Qr.e Tw rfl T1.ok T1.rep hA) fun v W2 s2 k2 z1=>?_) rfl);obtain ⟨RW,rv⟩:=z1;have T2:=T1.expr k2 RW;refine af (T2.store (x:="ch") (by decide) rfl rv) (fun _ s3 T3=>?_) fun _ _ f=>f;refine aW ⟨rfl,W2,T3.forget (so fun p hp=>?_) rfl⟩;simp only [aq,aO,or_false] at hp;rcases hp with rfl | rfl | rfl | rfl<;>rfl'
 ·have hb:(([c]:List Nat)==[92])=false:=by simpa using hc
  rw [hb];unfold uS xA uw;rw [if_neg hc,if_neg hc,if_neg hc];exact aW ⟨rfl,W1,T1⟩
theorem HE:∀ {p1 p2 p3:Pos} {x:List Nat} (T:TI J W0 s0 env C (uA C tok x) ln cs false W s) (QS:(tok++x).length<=lim),aD (aC P0 J.w) A (exec (EM p1 p2 p3) env) (fun f s'=>f= .next/\∃ W',TI J W0 s0 env C (rt C (tok++x)) ln cs false W' s') (fun _ _=>False) s:=by iterate 6 obtain ⟨v1,h1,r1⟩:=T.rep.vars "token" (.str tok) (by rfl');obtain ⟨v2,h2,r2⟩:=T.rep.vars "ch" (.str x) (by rfl');unfold EM;refine mx (db h1 T.rep.kind (by decide) (bq (db h2 T.rep.kind (by decide) ?_) (by decide)));refine Ex.into (wQ (X:=[]) (op:= .Add) (d:= .str (tok++x)) (by show EZ (tok++x)=_;unfold EZ;rw [if_pos QS]) r1 r2 T.ok) fun v W2 s2 k2 z2=>?_;obtain ⟨RW,rv⟩:=z2;have T2:=T.expr k2 (RW.trans T.H);refine af (T2.store (x:="token") (by decide) rfl rv) (fun _ s3 T3=>⟨rfl,W2,T3.forget (so fun p hp=>?_) rfl⟩) fun _ _ f=>f;simp only [aq,aO,or_false] at hp;rcases hp with rfl | rfl | rfl<;>rfl'
noncomputable def xf (J:Cx) (W0:Wd) (s0:ah) (env:Env) (C:TC):Bool×List Nat×List Nat×Int->Flow->ah->Prop
| (true,acc,rest,ln),f,s'=>∃ W' v,f= .ret v/\Rd J W'.F W'.as (.str acc) v/\W'.H=lg C.g C.i C.j ln rest/\Qk J [] W0 s0 W' s'
| (false,acc,rest,ln),f,s'=>f= .next/\rest=[]/\∃ W',TI J W0 s0 env C (rt C acc) ln [] true W' s'
theorem AQ:∀ {c:Nat} {r:List Nat},(uw c r).length<=r.length/\(uS c r).length+(uw c r).length<=r.length+1:=by iterate 2
 unfold uw uS;by_cases hc:c=92
 ·rw [if_pos hc,if_pos hc];cases r<;>simp<;>omega
 ·rw [if_neg hc,if_neg hc];simp;omega
theorem Bi:∀ {te:Expr} {stop:Nat->Bool} {pc pn pr pi q1 q2 q3 q4 p1 p2 ap cp ps a1 a2 a3:Pos} (fx:Fx J) (kl:Kl J) (SA:Ok J 9) (Qr:Ok J 30) (Qz:FnAt J (F0 J) C.f QV) (hte:∀ tok c g ln,g[C.i]? =some (.lex ln (some C.j) [])->ceT P0 30 rh (uA C tok [c]) te g=some (stop c,g)) (hl:(ap.endLine==cp.line)=true) (hA:Qs 30 A) (T:TI J W0 s0 env C (rt C tok) ln cs false W s) (QS:tok.length+cs.length<=lim),bQ (aC P0 J.w) A (.forLoop (.Name "ch" pc) (.ref C.I) [.If te [.Return (some (.Name "token" pn)) pr] [DM q1 q2 q3 q4 p1 p2 ap cp ps] pi,EM a1 a2 a3] [] env) (fun r s'=>∃ f,r= .ok f/\xf J W0 s0 env C (qt stop cs tok ln) f s') s:=by iterate 28
 refine codeAny_forLoop (fun k s'=>∃ cs' RM ln' W',k=cs'.length+1/\qt stop cs' RM ln'=qt stop cs tok ln/\TI J W0 s0 env C (rt C RM) ln' cs' false W' s'/\RM.length+cs'.length<=lim) ?_ (cs.length+1) ⟨cs,tok,ln,W,rfl,rfl,T,QS⟩;rintro k s1 ⟨cs',RM,ln',W1,rfl,QG,T1,Ve⟩;refine T1.turn fx kl SA Qz (hA.le (by omega)) (fun hc W2 s2 T2=>?_) (fun c r hc W2 s2 v T2 rv=>?_)
 ·subst hc;refine aW ⟨_,rfl,?_⟩;rw [<-QG];exact ⟨rfl,rfl,W2,T2⟩
 ·subst hc;refine af (cQ (T2.store (x:="ch") (by decide) rfl rv)) (fun _ s3 T3=>?_) (fun _ _ (f:False)=>f.elim);have T3:TI J W0 s0 env C (uA C RM [c]) (oX ln' c) r false W2 s3:=T3;refine af (Q:=fun f QK=>match f with
     | .next | .cont=>∃ m,m<(c::r).length+1/\∃ cs' RM ln' W',m=cs'.length+1/\qt stop cs' RM ln'=qt stop cs tok ln/\TI J W0 s0 env C (rt C RM) ln' cs' false W' QK/\RM.length+cs'.length<=lim
     | .brk=>∃ f,(.ok .next:iy)= .ok f/\xf J W0 s0 env C (qt stop cs tok ln) f QK
     | .ret v=>∃ f,(.ok (.ret v):iy)= .ok f/\xf J W0 s0 env C (qt stop cs tok ln) f QK) ?_ (fun _ _ h=>h) (fun _ _ (f:False)=>f.elim)
  refine ao (fC (Ex.into (Qr.t (hte RM c _ _ T3.gi) rfl T3.ok T3.rep hA) fun b W4 s4 k4 z0=>?_));obtain ⟨hb,Uz⟩:=z0;subst hb;have T4:=T3.expr k4 (Uz.trans T3.H);cases hs:stop c with
  | true=>
   rw [if_pos rfl];obtain ⟨v5,h5,r5⟩:=T4.rep.vars "token" (.str RM) (by rfl');refine ao (cm (bq (db h5 T4.rep.kind (by decide) ⟨_,rfl,?_⟩) (by decide)));have:qt stop (c::r) RM ln'=(true,RM,r,oX ln' c):=by rw [rL,if_pos hs]
   rw [<-QG,this];exact ⟨W4,v5,rfl,r5,T4.H,T4.tr⟩
  | false=>
   rw [if_neg aJ];refine ao (af (HI Qr hl T4 hA) (fun f s5 z1=>?_) fun _ _ f=>f);obtain ⟨hf,W5,T5⟩:=z1;subst hf;refine aW ?_;have hle:=AQ (c:=c) (r:=r);have VQ:(RM++uS c r).length+(uw c r).length<=lim:=by rw [aw];simp only [aI] at Ve;omega
   refine ao (af (HE T5 (by omega)) (fun f s6 z2=>?_) fun _ _ f=>f);obtain ⟨hf,W6,T6⟩:=z2;subst hf;refine aW ⟨(uw c r).length+1,by simp only [aI];omega,uw c r,RM++uS c r,xA c (oX ln' c) r,W6,rfl,?_,T6,VQ⟩;rw [<-QG,EU hs]
end
noncomputable def sf:List Nat->Int->Bool×List Nat×List Nat×Int
| [],ln=>(false,[],[],ln)
| c::r,ln=>if qG c then sf r (oX ln c) else if c=34 then qt (· ==34) r [] (oX ln c) else qt qG (uw c r) (uS c r) (xA c (oX ln c) r)
theorem GJ:∀ (cs:List Nat) (ln:Int),(sf cs ln).2=tok cs ln:=by iterate 0
 intro cs;induction cs with
 | nil=>intro ln;exact rfl
 | cons c r Qj=>
  intro ln;dsimp only [sf,tok];cases hw:qG c with
  | true=>exact Qj (oX ln c)
  | false=>
   rw [if_neg aJ,if_neg aJ];by_cases h1:c=34
   ·rw [if_pos h1,if_pos h1];exact Lz _ r [] _ (bN _)
   ·rw [if_neg h1,if_neg h1];unfold uw uS xA;by_cases h2:c=92
    ·rw [if_pos h2,if_pos h2,if_pos h2,if_pos h2];cases r with | nil=>rfl | cons d r'=>exact FF _ r' _ _ (bN _)
    ·rw [if_neg h2,if_neg h2,if_neg h2,if_neg h2];exact FF _ r _ _ (bN _)
noncomputable def Mb (pn pr:Pos):Stmt:= .Return (some (.Name "token" pn)) pr
noncomputable def AN (pc pf pp:Pos) (b:List Stmt):Stmt:= .For (.Name "ch" pc) (.Name "fiter" pf) b [] pp
noncomputable def J1:List Stmt:=[(.If (Hq ⟨144,23,144,25⟩ ⟨144,29,144,32⟩ ⟨144,23,144,32⟩ "\"") [Mb ⟨145,31,145,36⟩ ⟨145,24,145,36⟩] [DM ⟨146,25,146,27⟩ ⟨146,31,146,35⟩ ⟨146,25,146,35⟩ ⟨146,20,147,46⟩ ⟨147,24,147,26⟩ ⟨147,29,147,33⟩ ⟨147,29,147,44⟩ ⟨147,29,147,46⟩ ⟨147,24,147,46⟩] ⟨144,20,147,46⟩),EM ⟨148,20,148,25⟩ ⟨148,29,148,31⟩ ⟨148,20,148,31⟩]
noncomputable def KH:List Stmt:=[(.If (OB ⟨154,23,154,25⟩ ⟨154,29,154,33⟩ ⟨154,29,154,44⟩ ⟨154,23,154,44⟩) [Mb ⟨155,31,155,36⟩ ⟨155,24,155,36⟩] [DM ⟨156,25,156,27⟩ ⟨156,31,156,35⟩ ⟨156,25,156,35⟩ ⟨156,20,157,46⟩ ⟨157,24,157,26⟩ ⟨157,29,157,33⟩ ⟨157,29,157,44⟩ ⟨157,29,157,46⟩ ⟨157,24,157,46⟩] ⟨154,20,157,46⟩),EM ⟨158,20,158,25⟩ ⟨158,29,158,31⟩ ⟨158,20,158,31⟩]
noncomputable def HB:List Stmt:=[(.If (OB ⟨140,15,140,17⟩ ⟨140,21,140,25⟩ ⟨140,21,140,36⟩ ⟨140,15,140,36⟩) [(.Continue ⟨141,16,141,24⟩)] [] ⟨140,12,141,24⟩),
 (.If (Hq ⟨142,15,142,17⟩ ⟨142,21,142,24⟩ ⟨142,15,142,24⟩ "\"") [AN ⟨143,20,143,22⟩ ⟨143,26,143,31⟩ ⟨143,16,148,31⟩ J1]
  [DM ⟨150,19,150,21⟩ ⟨150,25,150,29⟩ ⟨150,19,150,29⟩ ⟨150,16,151,42⟩ ⟨151,20,151,22⟩ ⟨151,25,151,29⟩ ⟨151,25,151,40⟩ ⟨151,25,151,42⟩ ⟨151,20,151,42⟩,EM ⟨152,16,152,21⟩ ⟨152,25,152,27⟩ ⟨152,16,152,27⟩,AN ⟨153,20,153,22⟩ ⟨153,26,153,31⟩ ⟨153,16,158,31⟩ KH] ⟨142,12,158,31⟩)]
noncomputable def ML (p q:Pos):Expr:=(.Attribute (.Name "self" p) "pushback" q)
noncomputable def Sw:Fn:=⟨["self"],rh,
 [(.If (ML ⟨135,11,135,15⟩ ⟨135,11,135,24⟩) [(.Return (some (.Call (.Attribute (ML ⟨136,19,136,23⟩ ⟨136,19,136,32⟩) "pop" ⟨136,19,136,36⟩) [(.Constant (.int 0) 0 ⟨136,37,136,38⟩)] [] ⟨136,19,136,39⟩)) ⟨136,12,136,39⟩)] [] ⟨135,8,136,39⟩),
  (.Assign [(.Name "token" ⟨137,8,137,13⟩)] (.Constant (.str "") 0 ⟨137,16,137,18⟩) ⟨137,8,137,18⟩),
  (.Assign [(.Name "fiter" ⟨138,8,138,13⟩)] (.Call (.Name "iter" ⟨138,16,138,20⟩) [(.Attribute (.Name "self" ⟨138,21,138,25⟩) "_read_char" ⟨138,21,138,36⟩),(.Constant (.str "") 0 ⟨138,38,138,40⟩)] [] ⟨138,16,138,41⟩) ⟨138,8,138,41⟩),
  AN ⟨139,12,139,14⟩ ⟨139,18,139,23⟩ ⟨139,8,158,31⟩ HB,Mb ⟨159,15,159,20⟩ ⟨159,8,159,20⟩]⟩
theorem Al:wm (pu P0 "_netrclex") "get_token" =some Sw:=by iterate 0 rfl'
section
variable {J:Cx} {A:bf} {W W0 W':Wd} {s s0 s':ah} {X:List Addr} {env:Env} {C:TC} {st st':St} {ln ln':Int} {cs cs' tok:List Nat} {e:Bool}
theorem TI.over:∀ {Q:Option ag->ah->Prop} {E:ag->ah->Prop} (T:TI J W0 s0 env C st ln cs true W s) (hA:A.handled=none) (h:∀ s',TI J W0 s0 env C st ln cs true W s'->Q none s'),aD (aC P0 J.w) A (eF (.ref C.I)) Q E s:=by iterate 5 exact (zJ hA T.it fun h' k=>h _ (T.expr (W':=W) ((Qk.grow (X:=[]) (s':={s with heap:=h'}) T.ok (fun a o _ e=>k a o e) (fun a o e=>⟨o,k a o e⟩) (by simp) rfl rfl)) T.H))
theorem BL:∀ {pc pf pp:Pos} {b:List Stmt} {Q:Flow->ah->Prop} (T:TI J W0 s0 env C (rt C tok) ln cs e W s) (h:bQ (aC P0 J.w) A (.forLoop (.Name "ch" pc) (.ref C.I) b [] env) (fun r s'=>∃ f,r= .ok f/\Q f s') s),aD (aC P0 J.w) A (exec (AN pc pf pp b) env) Q (fun _ _=>False) s:=by iterate 7 obtain ⟨v,h1,r1⟩:=T.rep.vars "fiter" (.raw C.I) (by rfl');dsimp only [Rd] at r1;subst r1;unfold AN;refine md (bq (db h1 T.rep.kind (by decide) ?_) (by decide)) (fun _=>rfl);refine Jb (Mv:=if e then .none else .ref C.M) (sv:=if e then .none else .str "" C.u) (e:=e) (by rw [T.it];cases e<;>rfl) ?_;exact cP h fun r s' z0=>by obtain ⟨f,hr,hq⟩:=z0;subst hr;exact hq
theorem MJ:∀ {pc:Pos} (fx:Fx J) (kl:Kl J) (SA:Ok J 9) (Qr:Ok J 30) (Qz:FnAt J (F0 J) C.f QV) (hA:Qs 30 A) (T:TI J W0 s0 env C (rt C tok) ln cs false W s) (QS:tok.length+cs.length<=lim),bQ (aC P0 J.w) A (.forLoop (.Name "ch" pc) (.ref C.I) J1 [] env) (fun r s'=>∃ f,r= .ok f/\xf J W0 s0 env C (qt (· ==34) cs tok ln) f s') s:=by iterate 9
 exact (Bi fx kl SA Qr Qz (fun tok c g ln _=>by
  have:=NK (C:=C) (tok:=tok) (x:=[c]) (p1:=⟨144,23,144,25⟩) (p2:=⟨144,29,144,32⟩) (p3:=⟨144,23,144,32⟩) (g:=g);rw [this];congr 2;by_cases hc:c=34
  ·subst hc;rfl
  ·rw [show (([c]:List Nat)==[34])=false by simpa using hc,show (c==34)=false by simpa using hc]) rfl hA T QS)
theorem Nr:∀ {pc:Pos} (fx:Fx J) (kl:Kl J) (SA:Ok J 9) (Qr:Ok J 30) (Qz:FnAt J (F0 J) C.f QV) (hA:Qs 30 A) (T:TI J W0 s0 env C (rt C tok) ln cs false W s) (QS:tok.length+cs.length<=lim),bQ (aC P0 J.w) A (.forLoop (.Name "ch" pc) (.ref C.I) KH [] env) (fun r s'=>∃ f,r= .ok f/\xf J W0 s0 env C (qt qG cs tok ln) f s') s:=by iterate 9 exact (Bi fx kl SA Qr Qz (fun tok c g ln e=>M9 e) rfl hA T QS)
theorem Oe:∀ {pc:Pos} (fx:Fx J) (kl:Kl J) (SA:Ok J 9) (Qr:Ok J 30) (Qz:FnAt J (F0 J) C.f QV) (hA:Qs 30 A) (T:TI J W0 s0 env C (rt C []) ln cs false W s) (QS:cs.length<=lim),bQ (aC P0 J.w) A (.forLoop (.Name "ch" pc) (.ref C.I) HB [] env) (fun r s'=>∃ f,r= .ok f/\xf J W0 s0 env C (sf cs ln) f s') s:=by iterate 9
 refine codeAny_forLoop (fun k s'=>(∃ cs' ln' W',k=cs'.length+1/\sf cs' ln'=sf cs ln/\TI J W0 s0 env C (rt C []) ln' cs' false W' s'/\cs'.length<=lim)\/(k=0/\∃ acc ln' W',sf cs ln=(false,acc,[],ln')/\TI J W0 s0 env C (rt C acc) ln' [] true W' s'))
  ?_ (cs.length+1) (.inl ⟨cs,ln,W,rfl,rfl,T,QS⟩)
 rintro k s1 (⟨cs',ln',W1,rfl,QG,T1,Ve⟩ | ⟨rfl,acc,ln',W1,QG,T1⟩)
 ·refine T1.turn fx kl SA Qz (hA.le (by omega)) (fun hc W2 s2 T2=>?_) (fun c r hc W2 s2 v T2 rv=>?_)
  ·subst hc;refine aW ⟨_,rfl,?_⟩;rw [<-QG];exact ⟨rfl,rfl,W2,T2⟩
  ·subst hc;refine af (cQ (T2.store (x:="ch") (by decide) rfl rv)) (fun _ s3 T3=>?_) (fun _ _ (f:False)=>f.elim);have T3:TI J W0 s0 env C (uA C [] [c]) (oX ln' c) r false W2 s3:=T3;generalize hI:(fun (k:Nat) (s':ah)=>(∃ cs' ln' W',k=cs'.length+1/\sf cs' ln'=sf cs ln/\TI J W0 s0 env C (rt C []) ln' cs' false W' s'/\cs'.length<=lim)\/(k=0/\∃ acc ln' W',sf cs ln=(false,acc,[],ln')/\TI J W0 s0 env C (rt C acc) ln' [] true W' s'))=I
   -- Wz way on from an inner walk
   have leave:∀ z f s4,sf cs ln=z->xf J W0 s0 env C z f s4->(match f with
     | .next | .cont=>∃ m,m<(c::r).length+1/\I m s4
     | .brk=>∃ f,(.ok .next:iy)= .ok f/\xf J W0 s0 env C (sf cs ln) f s4
     | .ret v=>∃ f,(.ok (.ret v):iy)= .ok f/\xf J W0 s0 env C (sf cs ln) f s4):=fun z f s4 hz h=>by
    obtain ⟨b,acc,rest,l⟩:=z;cases b with | true=>obtain ⟨W5,v5,rfl,h5⟩:=h;refine ⟨_,rfl,?_⟩;rw [hz];exact ⟨W5,v5,rfl,h5⟩ | false=>obtain ⟨rfl,rfl,W5,T5⟩:=h;refine ⟨0,Nat.succ_pos _,?_⟩;rw [<-hI];exact .inr ⟨rfl,acc,l,W5,hz,T5⟩
   refine af (Q:=fun f QK=>match f with
     | .next | .cont=>∃ m,m<(c::r).length+1/\I m QK
     | .brk=>∃ f,(.ok .next:iy)= .ok f/\xf J W0 s0 env C (sf cs ln) f QK
     | .ret v=>∃ f,(.ok (.ret v):iy)= .ok f/\xf J W0 s0 env C (sf cs ln) f QK) ?_ (fun _ _ h=>by rw [<-hI] at h;exact h) (fun _ _ (f:False)=>f.elim)
   simp only [aI] at Ve;unfold HB;refine ao (fC (Ex.into (Qr.t (M9 T3.gi) rfl T3.ok T3.rep hA) fun b W4 s4 k4 z1=>?_));obtain ⟨hb,Uz⟩:=z1;subst hb;have T4:=T3.expr k4 (Uz.trans T3.H);cases hs:qG c with
   | true=>
    rw [if_pos rfl];refine ao (wpAny_Continue ?_);refine ⟨r.length+1,by simp,?_⟩;rw [<-hI];refine .inl ⟨r,oX ln' c,W4,rfl,?_,T4.forget (so fun p hp=>?_) rfl,by omega⟩
    ·rw [<-QG];conv=>rhs;dsimp only [sf]
     rw [hs];rfl
    ·simp only [aq,aO,or_false] at hp;rcases hp with rfl | rfl | rfl<;>rfl'
   | false=>
    rw [if_neg aJ];refine aW ?_;refine ao (fC (Ex.into (Qr.t (NK (g:=W4.H)) rfl T4.ok T4.rep hA) fun b W5 s5 k5 z2=>?_));obtain ⟨hb,VU⟩:=z2;subst hb;have T5:=T4.expr k5 (VU.trans T4.H);by_cases hc:c=34
    ·rw [show (([c]:List Nat)==[34])=true by simp [hc],if_pos rfl];have T6:TI J W0 s0 env C (rt C []) (oX ln' c) r false W5 s5:=T5.forget (so fun p hp=>by
      simp only [aq,aO,or_false] at hp;rcases hp with rfl | rfl | rfl<;>rfl') rfl
     have hz:sf cs ln=qt (· ==34) r [] (oX ln' c):=by
      rw [<-QG];conv=>lhs;dsimp only [sf]
      rw [hs,if_neg aJ,if_pos hc]
     refine ao (af (BL T6 (MJ fx kl SA Qr Qz hA T6 (by simp;omega))) (fun f s7 h=>?_) fun _ _ f=>f);have h2:=leave _ f s7 hz h;cases f with | next=>exact aW (aW h2) | cont=>exact h2 | brk=>exact h2 | ret v=>exact h2
    ·rw [show (([c]:List Nat)==[34])=false by simpa using hc,if_neg aJ];have hz:sf cs ln=qt qG (uw c r) (uS c r) (xA c (oX ln' c) r):=by
      rw [<-QG];conv=>lhs;dsimp only [sf]
      rw [hs,if_neg aJ,if_neg hc]
     have hle:=AQ (c:=c) (r:=r);refine ao (af (HI Qr rfl T5 hA) (fun f s6 z3=>?_) fun _ _ f=>f);obtain ⟨hf,W6,T6⟩:=z3;subst hf;refine ao (af (HE T6 (by simp;omega)) (fun f s7 z4=>?_) fun _ _ f=>f);obtain ⟨hf,W7,T7⟩:=z4;subst hf;refine ao (af (BL T7 (Nr fx kl SA Qr Qz hA T7 (by simp;omega))) (fun f s8 h=>?_) fun _ _ f=>f);have h2:=leave _ f s8 hz h;cases f with | next=>exact aW (aW h2) | cont=>exact h2 | brk=>exact h2 | ret v=>exact h2
 ·refine T1.over hA.1 fun s2 T2=>aW ⟨_,rfl,?_⟩;rw [QG];exact ⟨rfl,rfl,W1,T2⟩
end
section
variable {J:Cx} {A:bf} {W W0 W':Wd} {s s0 s':ah} {X:List Addr} {sc:aX} {st:St} {env:Env}
theorem C5:∀ {g:G} {i:Nat} {m:MO} (h:g[i]? =some m),g.set i m=g:=by iterate 4
 apply iP;intro k;rw [gq];split
 ·rename_i q;subst q;rw [h,if_pos (aj.mp h).1]
 ·rfl
theorem AG:∀ {i:Nat} {a:Addr} {ln:Int} {src:Option Nat} {pb:List D} {p q:Pos} {Q:Bool->ah->Prop} (kl:Kl J) (R:Ql J W s.heap sc st env []) (hv:varD sc st "self" =some (.loc i)) (ha:W.as[i]? =some a) (h1:W.H[i]? =some (.lex ln src pb)) (hw:Qn J W s) (hq:∀ tk,Q (!pb.isEmpty) {s with toks:=tk}),aD (aC P0 J.w) A (jT (ML p q) env (eval (ML p q) env)) Q (fun _ _=>False) s:=by iterate 15
 obtain ⟨v,Se,r1⟩:=R.vars "self" _ hv;have Ug:=tA ha r1;subst Ug;obtain ⟨dA,pA,iv,t,u,vs,hf,TZ,UM,e1,hd,e4,⟨o,n,e5,c5,d5,dt5⟩,e6,e8,hI⟩:=pM hw h1 ha;have Rm:vs.size=pb.length:=by rw [<-e6.length,bA]
 unfold ML;refine dP (ur kl Se R.kind (by decide) hI (by rfl) rfl (by decide) qO hw ?_) rfl;refine nq (items:=vs) ⟨o,e5,c5,n,dt5⟩ ?_ ?_
 ·rw [Rm];unfold lim at UM;omega
 ·have:vs.isEmpty=pb.isEmpty:=by
   unfold Array.isEmpty;rw [Rm];cases pb<;>simp
  rw [this];exact hq _
theorem IE:∀ {f:Addr} {i:Nat} {ln:Int} {src:Option Nat} {d:D} {r:List D} {a:Addr} (fx:Fx J) (kl:Kl J) (Qz:FnAt J (F0 J) f Sw) (h1:W.H[i]? =some (.lex ln src (d::r))) (ha:W.as[i]? =some a) (hw:Qn J W s) (hA:Qs 2 A),Ex J A (call (.ref f) [.ref a]) [] W s (li J d (W.H.set i (.lex ln src r))):=by iterate 14
 have RV:Rd J W.F W.as (.loc i) (.ref a):=by dsimp only [Rd];exact ⟨a,rfl,ha⟩
 refine sr (ds:=[.loc i]) fx Qz rfl (by have:=hA.2.1;omega) (by dsimp only [Qo];exact ⟨_,_,rfl,RV,rfl⟩) hw fun env Qg R=>?_;show aD _ _ (gg Sw.body env) _ _ _;unfold Sw;refine ao (fC (AG kl R.R (by rfl') ha h1 R.ok fun tk=>?_));rw [if_pos (by rfl)];have R2:=R.expr (Qk.toks (X:=[]) (tk:=tk) R.ok);obtain ⟨v1,Se,r1⟩:=R2.R.vars "self" (.loc i) (by rfl');have Ug:=tA ha r1;subst Ug;obtain ⟨dA,pA,iv,t,u,vs,hf,TZ,UM,e1,hd,e4,e5,e6,e8,hI⟩:=pM R2.ok h1 ha;refine ao (cm ?_);rw [jj];refine ae (ur kl Se R2.R.kind (by decide) hI (by rfl) rfl (by decide) qO R2.ok (ae (bt ?_)));obtain ⟨o,n,eo,co,dO,dt⟩:=id e5;refine zg gE j7 (o:=o) eo co dO rfl (by decide) rfl ?_;refine aR (bO ?_) rfl;refine aZ ?_;dsimp only [Qo] at e6;obtain ⟨v,vr,UL,rv,Zn⟩:=e6;have Rm:vs.size=(d::r).length:=by have:=congrArg fj UL;rw [bA] at this;rw [this];simp [Zn.length]
 have p5:bS ({Qg with toks:=tk+1+1}:ah).heap pA vs:=e5;refine af (Ar p5 UL (by rw [Rm];exact UM)) (fun w s2 z0=>?_) fun _ _ f=>f;obtain ⟨hw2,hs⟩:=z0;subst hw2;have R3:=R2.expr (Qk.toks (X:=[]) (tk:=tk+1+1) R2.ok);have k:=Ge (X:=[]) (pb':=r) R3.ok h1 ha hf (by simp at UM;omega) hs (by simpa using Zn);exact ⟨_,R3.tr.Qi k,rfl,rv⟩
theorem BZ:∀ {x m:Str} {xp ap:Pos} {a:Addr} {mA:Str->Option ag} {fn:Fn} {Q:ag->ah->Prop} {E:ag->ah->Prop} (kl:Kl J) (hf:wm (pu P0 "_netrclex") m=some fn) (hv:RB s.heap env x (.ref a)) (hk:env.scope.kind= .function) (hx:mt x=true) (hI:s.heap.Inst a J.cls mA) (hm:mA m=none) (hB:bI (.type "object") m=pure none) (UN:(["__module__","__name__","__qualname__","__doc__","__annotations__"]:List Str).contains m=false) (hw:Qn J W s) (hq:∀ f,FnAt J (F0 J) f fn->Q (.ref s.heap.objs.size) {s with heap:=s.heap.push (p8 f a),toks:=s.toks+1}),aD (aC P0 J.w) A (eval (.Attribute (.Name x xp) m ap) env) Q E s:=by iterate 20 rw [jk,pR];refine ae (bq (db hv hk hx ?_) (oJ hx).1);obtain ⟨N,mN,hc,h0,UA⟩:=kl.ex;obtain ⟨f,ob,Yt,Qz,ho,Sl⟩:=UA m fn hf;have TS:=hw.Qw;have hh:=hq f Qz;obtain ⟨Wi,g,d,t,os⟩:=s;have X:=hc Wi TS;obtain ⟨nm,q,bs,sn,sub,col,dd,k0,k1,k2,k3,k5,hC⟩:=X.obj;refine ae (bt (ae (bu (DE hC X.ns (h0 _ (by decide)) Yt (TS _ _ ho) Sl (h0 _ (by decide)) hB hI hm UN ?_))));exact ae (ay (ay hh))
theorem JA:∀ {f:Addr} {i j:Nat} {ln:Int} {cs:List Nat} {a:Addr} (fx:Fx J) (kl:Kl J) (SA:Ok J 9) (Qr:Ok J 30) (Qz:FnAt J (F0 J) f Sw) (h1:W.H[i]? =some (.lex ln (some j) [])) (h2:W.H[j]? =some (.sg cs)) (ha:W.as[i]? =some a) (hw:Qn J W s) (hA:Qs 34 A),Ex J A (call (.ref f) [.ref a]) [] W s (li J (.str (tok cs ln).1) ((W.H.set j (.sg (tok cs ln).2.1)).set i (.lex (tok cs ln).2.2 (some j) []))):=by iterate 16
 have RV:Rd J W.F W.as (.loc i) (.ref a):=by dsimp only [Rd];exact ⟨a,rfl,ha⟩
 refine sr (ds:=[.loc i]) fx Qz rfl (by have:=hA.2.1;omega) (by dsimp only [Qo];exact ⟨_,_,rfl,RV,rfl⟩) hw fun env Qg R=>?_;have QY:Qs 33 (A.deeper env):=hA.deeper;show aD _ _ (gg Sw.body env) _ _ _;unfold Sw;refine ao (fC (AG kl R.R (by rfl') ha h1 R.ok fun tk=>?_));rw [if_neg (by simp)];refine aW ?_;have R2:=R.expr (Qk.toks (X:=[]) (tk:=tk) R.ok)
 -- token
 refine ao (bj (cK ?_) rfl);have R3:=R.expr (Qk.toks (X:=[]) (tk:=tk+1) R.ok);refine af (R3.store (x:="token") (v:= .str "" tk) (d:= .str []) (by decide) rfl (by dsimp only [Rd];exact ⟨by simp,tk,rfl⟩)) (fun _ s4 z0=>?_) fun _ _ f=>f;obtain ⟨_,R4⟩:=z0
 -- fiter
 obtain ⟨v1,Se,r1⟩:=R4.R.vars "self" (.loc i) (by rfl');have Ug:=tA ha r1;subst Ug;obtain ⟨dA,pA,iv,t,u,vs,hf,TZ,UM,e1,hd,e4,e5,e6,e8,hI⟩:=pM R4.ok h1 ha;have cf:=px fx (f:="iter") (by decide);refine ao (bj (bH (bk R4.R.kind (R4.R.global (by rfl')) (cf.1.load R4.R R4.ok ?_) (by decide))) rfl);refine pa (first:=[]) cf rfl ?_;refine aR (BZ kl yE Se R4.R.kind (by decide) hI (by rfl) xX (by decide) R4.ok fun fr S1=>?_) rfl;have k5:=Qk.Tq (X:=[]) (tk:=s4.toks+1+1) R4.ok (p8 fr a);have hM5:(W.Q3 s4.heap.objs.size (p8 fr a)).F s4.heap.objs.size=some (p8 fr a):=oN _ _ _;refine aR (cK ?_) rfl;refine aZ ⟨k5.ok.Qw,?_⟩;have hMs:(s4.heap.push (p8 fr a)).get? s4.heap.objs.size=some (p8 fr a):=ax _ rfl;refine Ea (M:=s4.heap.objs.size) (f:=fr) (a:=a) hMs ?_;have k6:=Qk.push (X:=[]) (tk:=s4.toks+1+1) k5.ok (rS (.ref s4.heap.objs.size) (.str "" (s4.toks+1)) false);have hIn:(s4.heap.push (p8 fr a)).get? (s4.heap.push (p8 fr a)).objs.size=none:=bn _;have nI:=k5.ok.QL hIn;have Vs:((s4.heap.push (p8 fr a)).push (rS (.ref s4.heap.objs.size) (.str "" (s4.toks+1)) false)).get? (s4.heap.push (p8 fr a)).objs.size=some (rS (.ref s4.heap.objs.size) (.str "" (s4.toks+1)) false):=ax _ rfl;have R5:=R4.expr (k5.Qi k6);have tr5:=(R4.expr k5).tr;have ZR:s.heap.get? (s4.heap.push (p8 fr a)).objs.size=none:=tr5.Qt hIn;have Y1:(s4.heap.push (p8 fr a)).objs.size∉am env++[]:=(R4.expr k5).QW hIn;have QT:Apart J (W.Q3 s4.heap.objs.size (p8 fr a)) ((s4.heap.push (p8 fr a)).push (rS (.ref s4.heap.objs.size) (.str "" (s4.toks+1)) false)) (s4.heap.push (p8 fr a)).objs.size:=⟨nI.1,nI.2.1,nI.2.2,_,Vs⟩
 refine af (R5.store (x:="fiter") (d:= .raw (s4.heap.push (p8 fr a)).objs.size) (by decide) rfl (by dsimp only [Rd])) (fun _ s6 z1=>?_) fun _ _ f=>f;obtain ⟨k7,R6⟩:=z1
 -- Wz walk
 have YZ:(s4.heap.push (p8 fr a)).objs.size∉am env:=fun h=>Y1 (aE _ h);have Rl:=CC h1 h2;have hγ:(W.Q3 s4.heap.objs.size (p8 fr a)).H=lg W.H i j ln cs:=by show W.H=_;unfold lg;rw [C5 h2,C5 h1]
 have T:TI J W s env ⟨i,j,(s4.heap.push (p8 fr a)).objs.size,s4.heap.objs.size,fr,a,s4.toks+1,W.H⟩ (rt ⟨i,j,(s4.heap.push (p8 fr a)).objs.size,s4.heap.objs.size,fr,a,s4.toks+1,W.H⟩ []) ln cs false (W.Q3 s4.heap.objs.size (p8 fr a)) s6:=by refine TI.forget ⟨⟨_,R6⟩,hγ,QT.keep k7,QT.at k7 YZ _ Vs,hM5,⟨YZ,ZR⟩,ha,(aj.mp h1).1,(aj.mp h2).1,Rl⟩ (so fun p hp=>?_) rfl;simp only [aq,aO,or_false] at hp;rcases hp with rfl | rfl | rfl<;>rfl'
 have XU:cs.length<=lim:=by
  obtain ⟨_,_,_,_,_,h,_⟩:=sP (v:= .ref (W.as[j]?.getD 0)) hw h2 (by
   have hj:j<W.as.length:=by rw [hw.Q9];exact (aj.mp h2).1
   dsimp only [Rd];exact ⟨_,rfl,by rw [au hj];rfl⟩)
  exact h
 have Yg:=GJ cs ln;refine ao (af (BL T (Oe fx kl SA Qr S1 (QY.le (by omega)) T XU)) (fun f s7 h=>?_) fun _ _ f=>f);revert h Yg;obtain ⟨b,acc,rest,l⟩:=sf cs ln;intro Yg h;have q1:(tok cs ln).1=acc:=by rw [<-Yg]
 have q2:(tok cs ln).2.1=rest:=by rw [<-Yg]
 have q3:(tok cs ln).2.2=l:=by rw [<-Yg]
 rw [q1,q2,q3];cases b with | true=>obtain ⟨W8,v8,rfl,r8,g8,t8⟩:=h;exact ⟨W8,t8,g8,r8⟩ | false=>obtain ⟨rfl,rfl,W8,T8⟩:=h;obtain ⟨v9,h9,r9⟩:=T8.rep.vars "token" (.str acc) (by rfl');refine ao (cm (bq (db h9 T8.rep.kind (by decide) ?_) (by decide)));exact ⟨W8,T8.tr,T8.H,r9⟩
end
section
variable {J:Cx} {A:bf} {W W0 W':Wd} {s s0 s':ah} {n:Nat}
theorem yn:∀ {g g2:G} {i:Nat} {d:D} (h:wU g i=some (d,g2)),(∃ ln src r,g[i]? =some (.lex ln src (d::r))/\g2=g.set i (.lex ln src r))\/
  (∃ ln j cs,g[i]? =some (.lex ln (some j) [])/\g[j]? =some (.sg cs)/\d= .str (tok cs ln).1/\g2=(g.set j (.sg (tok cs ln).2.1)).set i (.lex (tok cs ln).2.2 (some j) [])):=by iterate 5
 replace h:=qI h;obtain ⟨o,e,⟨ln,src,pb⟩,h1,h⟩:=h;cases sV h1;cases pb with | cons t r=>cases h;exact .inl ⟨ln,src,r,e,rfl⟩ | nil=>replace h:=vq h;obtain ⟨j,h2,o',e2,cs,h3,h⟩:=h;cases (show src=some j from h2);cases sC h3;cases h;exact .inr ⟨ln,j,cs,e,e2,rfl,rfl⟩
theorem M7:∀ (fx:Fx J) (kl:Kl J) (ok9:10<=n->Ok J 9) (aas:40<=n->Ok J 30),Lx J n:=by iterate 4
 exact {
  attr:=fun h1 h2 h3 hw _=>JT kl h1 h2 h3 hw
  S9:=by
   intro m i ds g1 d g2 A W s o apos pos env ov k trees h XP Vf r hw hA hp hk hl ht;by_cases VS:m="get_token"
   ·subst VS;have hn:40<=n:=XP;rcases xo h with ⟨rfl,⟨_,h1⟩ | ⟨q,_⟩⟩ | ⟨d1,_,⟨q,_⟩ | q⟩
    ·rcases yn h1 with ⟨ln,src,r',e1,rfl⟩ | ⟨ln,j,cs,e1,e2,rfl,rfl⟩
     ·refine um kl Al (fun _ _ _ _=>by rfl) A0 ⟨_,_,_,e1⟩ Vf r hw hp hk hl ht fun f a W1 s1 vs Qz hg ha rv RO=>?_;rw [sI rv];subst hg;exact IE fx kl Qz e1 ha RO (hA.le (by omega))
     ·refine um kl Al (fun _ _ _ _=>by rfl) A0 ⟨_,_,_,e1⟩ Vf r hw hp hk hl ht fun f a W1 s1 vs Qz hg ha rv RO=>?_;rw [sI rv];subst hg;exact JA fx kl (ok9 (by omega)) (aas hn) Qz e1 e2 ha RO (hA.le (by omega))
    ·exact absurd q (by decide)
    ·exact absurd q (by decide)
    ·exact absurd q (by decide)
   ·exact Gv fx kl ok9 VS h XP Vf r hw hA hp hk hl ht}
theorem LA:∀ (fx:Fx J) (kl:Kl J) (sp4:∀ n,30<=n->Ok J 9->Z2 J n) (gen:∀ n,TJ J n->pJ J (n+1)) (TG:pJ J 0) (n:Nat),Lx J n/\Sp J n:=by iterate 6 induction n using Nat.strongRecOn with | _ n ih=>exact ⟨M7 fx kl (fun h=>(zX fx gen TG 9 fun m hm=>ih m (by omega)).1) fun h=>(zX fx gen TG 30 fun m hm=>ih m (by omega)).1,M1 fx fun h=>sp4 n h (zX fx gen TG 9 fun m hm=>ih m (by omega)).1⟩
theorem K0:∀ (fx:Fx J) (kl:Kl J) (sp4:∀ n,30<=n->Ok J 9->Z2 J n) (gen:∀ n,TJ J n->pJ J (n+1)) (TG:pJ J 0) (n:Nat),Ok J n/\TJ J n/\wo J n/\pJ J n:=by iterate 6 exact (zX fx gen TG n fun m _=>LA fx kl sp4 gen TG m)
end
noncomputable def initFn:Fn:=⟨["self","fp"],(.mk .function [("self",.local),("fp",.local)] false false []),
 [(.Assign [(.Attribute (.Name "self" ⟨123,8,123,12⟩) "lineno" ⟨123,8,123,19⟩)] (.Constant (.int 1) 0 ⟨123,22,123,23⟩) ⟨123,8,123,23⟩),
  (.Assign [(.Attribute (.Name "self" ⟨124,8,124,12⟩) "instream" ⟨124,8,124,21⟩)] (.Name "fp" ⟨124,24,124,26⟩) ⟨124,8,124,26⟩),
  (.Assign [(.Attribute (.Name "self" ⟨125,8,125,12⟩) "whitespace" ⟨125,8,125,23⟩)] (.Constant (.str "\n\t\r ") 0 ⟨125,26,125,35⟩) ⟨125,8,125,35⟩),
  (.Assign [(.Attribute (.Name "self" ⟨126,8,126,12⟩) "pushback" ⟨126,8,126,21⟩)] (.List [] ⟨126,24,126,26⟩) ⟨126,8,126,26⟩)]⟩
theorem EP:wm (pu P0 "_netrclex") "__init__" =some initFn:=by iterate 0 rfl'
section
variable {J:Cx} {A:bf} {W W0 W':Wd} {s s0 s1 s':ah} {sc:aX} {st:St} {env:Env} {x dx:Addr} {mA:Str->Option ag}
structure IS (J:Cx) (W:Wd) (s1:ah) (sc:aX) (st:St) (env:Env) (x dx:Addr) (mA:Str->Option ag) (s:ah):Prop where
 er:Ql J W s.heap sc st env []
 tr:Qk J [dx] W s1 W s
 ob:∃ ob,s.heap.get? x=some ob/\ob.cls= .ref J.cls/\ob.dict=some dx/\∀ c:mv,ob.data≠ .cls c
 ns:s.heap.Ns1 dx mA
 ne:dx≠x
 nf:dx∉am env
 Xu:W.F dx=none/\dx∉J.T/\dx∉W.QF.flatten
 xN:W.F x=none/\x∉J.T/\x∉W.QF.flatten
theorem IS.expr:∀ (I:IS J W s1 sc st env x dx mA s) (t:Qk J [] W s W s'),IS J W s1 sc st env x dx mA s':=by iterate 2 obtain ⟨ob,o1,o2⟩:=I.ob;exact ⟨I.er.QB t,I.tr.Qi t,⟨ob,t.keep _ _ I.xN.2.1 I.xN.2.2 (by simp) o1,o2⟩,Ns1.keep I.ns fun o e=>t.keep _ _ I.Xu.2.1 I.Xu.2.2 (by simp) e,I.ne,I.nf,I.Xu,I.xN⟩
theorem IS.set:∀ {name:Str} {v:ag} {ns:List Str} (kl:Kl J) (I:IS J W s1 sc st env x dx mA s) (hn:name∈Rf) (hB:bI (.type "object") name=pure none) (hwi:gY mA ns) (Rm:ns.length<=dw),aD (aC P0 J.w) A (setAttr (.ref x) name v) (fun _ s'=>IS J W s1 sc st env x dx (fun y=>if y=name then some v else mA y) s') (fun _ _=>False) s:=by iterate 9
 obtain ⟨N,mN,hc,h0,_⟩:=kl.ex;obtain ⟨ob,o1,o2,o3,o4⟩:=I.ob;have hw:=I.tr.ok;have RZ:=I.ns;have I0:=I;obtain ⟨hp,g,d,tk,os⟩:=s;have X:=hc hp hw.Qw;obtain ⟨nm,q,bs,sn,sub,col,dd,k0,k1,k2,k3,k5,hC⟩:=X.obj;have Rl:x≠J.cls:=by rintro rfl;have z:hp.get? J.cls=_:=o1;rw [hC] at z;cases z;cases o2
 refine store_attr (ns:=ns) kh hC X.ns (h0 _ (by decide)) (h0 _ hn) hB Rl ⟨ob,o1,o2,o4,.inr ⟨dx,o3,I0.ne,RZ⟩⟩ (fun h' Zl I' hk ho=>?_) hwi Rm;obtain ⟨oa,q1,q2,q3,q4,q5⟩:=ho _ o1;replace q5:=q5 dx o3;have Xt:h'.get? x=some ob:=by rw [q1];obtain ⟨c0,d0,ZY,s0⟩:=oa;obtain ⟨c1,d1,dt1,s1⟩:=ob;simp only at q2 q3 q4 q5 o3;subst q2;subst q3;subst q4;subst q5;subst o3;rfl
 have o1:hp.get? x=some ob:=o1;have kk:∀ b o,b≠dx->hp.get? b=some o->h'.get? b=some o:=fun b o hb e=>by
  by_cases z:b=x
  ·subst z;rw [o1] at e;cases e;exact Xt
  ·exact hk b o z (fun SQ d' z1 z2=>by rw [o1] at z1;cases z1;rw [o3] at z2;cases z2;exact hb) e
 have Yo:h'.Ns1 dx fun y=>if y=name then some v else mA y:=by
  obtain ⟨o',y1,y2,y3,y4⟩:=I';rw [Xt] at y1;cases y1;rcases y4 with ⟨z,_⟩ | ⟨d',z1,_,z3⟩
  ·rw [o3] at z;cases z
  ·rw [o3] at z1;cases z1;exact z3
 have t:Qk J [dx] W ⟨hp,g,d,tk,os⟩ W ⟨h',g,d,Zl,os⟩:=Qk.grow (X:=[dx]) (s':=⟨h',g,d,Zl,os⟩) hw (fun b o hb e=>kk b o (by simpa using hb) e)
  (fun b o e=>by
   by_cases z:b=dx
   ·subst z;obtain ⟨o',_,_,e',_⟩:=Yo;exact ⟨o',e'⟩
   ·exact ⟨o,kk b o z e⟩) (fun b hb=>by simp at hb;subst hb;exact I0.Xu) rfl rfl
 refine ⟨I0.er.keep t (fun b hb So=>?_),I0.tr.RL t,⟨ob,Xt,o2,o3,o4⟩,Yo,I0.ne,I0.nf,I0.Xu,I0.xN⟩;simp at So;subst So;rw [aS] at hb;exact I0.nf hb
theorem rZ:∀ {p1 p2 ps:Pos} {e:Expr} {name:Str} {v:ag} {ns:List Str} {Q:Flow->ah->Prop} {Pe:ah->Prop} (kl:Kl J) (I:IS J W s1 sc st env x dx mA s) (RV:varD sc st "self" =some (.raw x)) (hn:name∈Rf) (hB:bI (.type "object") name=pure none) (hwi:gY mA ns) (Rm:ns.length<=dw) (hsw:jg e (some (.Attribute (.Name "self" p1) name p2)) ps.line env=pure false) (he:aD (aC P0 J.w) A (eval e env) (fun u s'=>u=v/\Qk J [] W s W s'/\Pe s') (fun _ _=>False) s) (hq:∀ s',IS J W s1 sc st env x dx (fun y=>if y=name then some v else mA y) s'->(∃ s2,Pe s2/\Qk J [dx] W s2 W s')->Q .next s'),aD (aC P0 J.w) A (exec (.Assign [.Attribute (.Name "self" p1) name p2] e ps) env) Q (fun _ _=>False) s:=by iterate 19 refine jG (af he (fun u s2 z0=>?_) fun _ _ f=>f) hsw;obtain ⟨hu,t,hpe⟩:=z0;subst hu;have I2:=I.expr t;obtain ⟨v1,Se,r1⟩:=I2.er.vars "self" _ RV;dsimp only [Rd] at r1;subst r1;refine bq (db Se I2.er.kind (by decide) ?_) (by decide);refine af (IS.set (s1:=s2) kl ⟨I2.er,Qk.refl I2.tr.ok,I2.ob,I2.ns,I2.ne,I2.nf,I2.Xu,I2.xN⟩ hn hB hwi Rm) (fun _ s3 I3=>?_) fun _ _ f=>f;exact hq s3 ⟨I3.er,I2.tr.RL I3.tr,I3.ob,I3.ns,I3.ne,I3.nf,I3.Xu,I3.xN⟩ ⟨s2,hpe,I3.tr⟩
theorem qv:∀ {m:Str->Option ag} {ns:List Str} {name:Str} {v:ag} (h:gY m ns),gY (fun y=>if y=name then some v else m y) (name::ns):=by iterate 5
 exact (fun y hy=>by
 by_cases q:y=name
 ·simp [q]
 ·have hy:(if y=name then some v else m y)≠none:=hy;rw [if_neg q] at hy;exact av _ (h y hy))
structure Made (J:Cx) (W:Wd) (s:ah) (fv:ag) (x dx pA:Addr) (s':ah):Prop where
 tr:Qk J [] W s W s'
 ob:∃ ob,s'.heap.get? x=some ob/\ob.cls= .ref J.cls/\ob.dict=some dx/\∀ c:mv,ob.data≠ .cls c
 ns:∃ t u,s'.heap.Ns1 dx (tN (.int 1 t) fv (.str "\n\t\r " u) pA)
 pb:bS s'.heap pA #[]
 new:s.heap.get? x=none/\s.heap.get? dx=none/\s.heap.get? pA=none
 ne:dx≠x/\dx≠pA/\pA≠x
theorem xP:∀ {fv:ag} {d:D} {Q:ag->ah->Prop} (fx:Fx J) (kl:Kl J) (rv:Rd J W.F W.as d fv) (hu:∀ F as v,Rd J F as d v->v=fv) (hw:Qn J W s) (hA:A.depth+4<cw) (hQ:∀ s' x dx pA,Made J W s fv x dx pA s'->Q (.ref x) s'),aD (aC P0 J.w) A (call (.ref J.cls) [fv]) Q (fun _ _=>False) s:=by iterate 10
 obtain ⟨N,mN,hc,h0,UA⟩:=kl.ex;obtain ⟨f,fo,Yt,Qz,ho,Sl⟩:=UA _ _ EP;have RT:=hw;obtain ⟨hp,g,dr,tk,os⟩:=s;have X:=hc hp hw.Qw;obtain ⟨nm,q,bs,sn,sub,col,dd,k0,k1,k2,k3,k5,hC⟩:=X.obj;refine wpAny_call_obj_init PySem.F.objNew hC X.ns Yt (hw.Qw _ _ ho) Sl fun h' x dx Mk=>?_;have t1:Qk J [] W ⟨hp,g,dr,tk,os⟩ W ⟨h',g,dr,tk,os⟩:=Qk.grow (X:=[]) (s':=⟨h',g,dr,tk,os⟩) RT (fun b o _ e=>Mk.keeps b o e) (fun b o e=>⟨o,Mk.keeps b o e⟩) (by simp) rfl rfl;obtain ⟨ob,o1,o2,o3,o4⟩:=id Mk.inst;have o5:=Mk.dict ob o1;have Zq:h'.Ns1 dx (fun _=>none)/\dx≠x:=by
  rcases o4 with ⟨z,_⟩ | ⟨d',z1,z2,z3⟩
  ·rw [z] at o5;cases o5
  ·rw [o5] at z1;cases z1;exact ⟨z3,z2⟩
 have ndx:=RT.QL Mk.newD;have nx:=RT.QL Mk.newX;refine sr (W:=W) (ds:=[.raw x,d]) fx Qz rfl (by show A.depth+1<_;omega) (by dsimp only [Qo,Rd];exact ⟨_,_,rfl,rfl,_,_,rfl,rv,rfl⟩) t1.ok fun env s2 R=>?_;have nf:dx∉am env:=fun hm=>by have:=R.fr _ hm;obtain ⟨o',_,_,e,_⟩:=Zq.1;have this:h'.get? dx=none:=this;rw [this] at e;cases e
 have I0:IS J W s2 initFn.scope _ env x dx (fun _=>none) s2:=⟨R.R,Qk.refl R.ok,⟨ob,R.tr.keep _ _ nx.2.1 nx.2.2 (by simp) o1,o2,o5,o3⟩,Ns1.keep Zq.1 fun o e=>R.tr.keep _ _ ndx.2.1 ndx.2.2 (by simp) e,Zq.2,nf,ndx,nx⟩
 show aD _ _ (gg initFn.body env) _ _ _;unfold initFn;refine ao (rZ kl (v:= .int 1 s2.toks) (ns:=[]) I0 (by rfl') (by decide) sd (fun y hy=>absurd rfl hy) (by decide) rfl (Pe:=fun _=>True) (bO ⟨rfl,Qk.toks R.ok,trivial⟩) fun s3 I1 _=>?_);obtain ⟨vf,hvf,rf⟩:=I1.er.vars "fp" d (by rfl');have aaJ:=hu _ _ _ rf;subst aaJ;refine ao (rZ kl (v:=vf) (ns:=["lineno"]) I1 (by rfl') (by decide) uy (qv fun y hy=>absurd rfl hy) (by decide) rfl (Pe:=fun _=>True) (bq (db hvf I1.er.kind (by decide) ⟨rfl,Qk.refl I1.tr.ok,trivial⟩) (by decide)) fun s4 I2 _=>?_);refine ao (rZ kl (v:= .str "\n\t\r " s4.toks) (ns:=["instream","lineno"]) I2 (by rfl') (by decide) sZ (qv (qv fun y hy=>absurd rfl hy)) (by decide) rfl (Pe:=fun _=>True) (cK ⟨rfl,Qk.toks I2.tr.ok,trivial⟩) fun s5 I3 _=>?_);have Wg:s5.heap.get? s5.heap.objs.size=none:=bn _;have k6:=Qk.push (X:=[]) (tk:=s5.toks) I3.tr.ok {cls:= .type "list",data:= .seq ([]:List ag).toArray};refine ao (rZ kl (v:= .ref s5.heap.objs.size) (ns:=["whitespace","instream","lineno"]) I3 (by rfl') (by decide) qO (qv (qv (qv fun y hy=>absurd rfl hy))) (by decide) rfl
  (Pe:=fun s'=>s'.heap.get? s5.heap.objs.size=some {cls:= .type "list",data:= .seq ([]:List ag).toArray}) (gU (aZ ⟨by simp,rfl,k6,ax _ rfl⟩)) fun s6 I4 t6=>aW ⟨rfl,?_⟩)
 obtain ⟨s7,hpa,t7⟩:=t6;have tr2:Qk J [] W ⟨hp,g,dr,tk,os⟩ W s2:=t1.Qi R.tr;have ZL:∀ b∈[dx],b∈([]:List Addr)\/(⟨hp,g,dr,tk,os⟩:ah).heap.get? b=none:=fun b hb=>by simp at hb;subst hb;exact .inr Mk.newD
 have np:=(tr2.trans I3.tr ZL).Qt Wg;have npa:=RT.QL np;have TZ:dx≠s5.heap.objs.size:=fun q=>by obtain ⟨o',_,_,e,_⟩:=I3.ns;rw [q,Wg] at e;cases e
 have hpx:s5.heap.objs.size≠x:=fun q=>by obtain ⟨o',e,_⟩:=I3.ob;rw [<-q,Wg] at e;cases e
 refine hQ s6 x dx s5.heap.objs.size ⟨tr2.trans I4.tr ZL,I4.ob,⟨s2.toks,s4.toks,?_⟩,⟨_,_,t7.keep _ _ npa.2.1 npa.2.2 (by simpa using dz TZ) hpa,rfl,rfl,rfl⟩,⟨Mk.newX,Mk.newD,np⟩,Zq.2,TZ,hpx⟩;have:=I4.ns;have hm:(fun y:Str=>if y="pushback" then some (ef s5.heap.objs.size) else if y="whitespace" then some (.str "\n\t\r " s4.toks) else if y="instream" then some vf else if y="lineno" then some (.int 1 s2.toks) else none)=tN (.int 1 s2.toks) vf (.str "\n\t\r " s4.toks) s5.heap.objs.size:=by
  funext y;unfold tN;by_cases q1:y="lineno"
  ·subst q1;rfl
  by_cases q2:y="instream"
  ·subst q2;rfl
  by_cases q3:y="whitespace"
  ·subst q3;rfl
  by_cases q4:y="pushback"
  ·subst q4;rfl
  simp only [if_neg q1,if_neg q2,if_neg q3,if_neg q4]
 rw [<-hm];exact this
end
section
variable {J:Cx} {A:bf} {W W0 W':Wd} {s s0 s1 s':ah} {x dx pA:Addr} {fv:ag}
theorem DU:∀ {h:Heap} (kl:Kl J) (hl:HV J h),jI (aC P0 J.w) h (lG (.ref J.cls)) .machine:=by iterate 3
 obtain ⟨N,mN,hc,_⟩:=kl.ex;obtain ⟨nm,q,bs,sn,sub,col,dd,k0,k1,k2,k3,k5,hC0⟩:=(hc h hl).obj;intro A Q E s k hq;obtain ⟨hh,g,d,t,os⟩:=s;have hC:hh.get? J.cls=_:=k _ _ hC0;have f1:=tc_lookup;have hT:(⟨hh,g,d,t,os⟩:ah).TypeIs (.ref J.cls) "type" :=⟨_,hC,rfl⟩
 unfold lG specialOf;repeat (any_goals (first | assumption | with_reducible refine d8 hC ?_ | with_reducible refine mI hC ?_ | wp_step))
theorem xq:∀ (fx:Fx J) (kl:Kl J),pN J "_netrclex" (.ref J.cls):=by iterate 2 obtain ⟨mg,mb,h1,h2,_,_,_,_,_,_,_,_,h3,_⟩:=fx.glob;exact ⟨⟨mg,mb,h1,h2,.inl h3⟩,fun h hl=>⟨_,.inr (.inl rfl),DU kl hl⟩⟩
theorem CZ:∀ {src:Option Nat} (hw:Qn J W s) (M:Made J W s fv x dx pA s') (WO:SrcAt J W.F W.as fv src),∃ W',Qk J [] W s W' s'/\W'.H=W.H++[.lex 1 src []]/\Rd J W'.F W'.as (.loc W.H.length) (.ref x):=by iterate 4
 obtain ⟨ob,o1,o2,o3,o4⟩:=M.ob;obtain ⟨t,u,RZ⟩:=M.ns;have nx:=hw.QL M.new.1;have nd:=hw.QL M.new.2.1;have np:=hw.QL M.new.2.2;have t2:=M.tr.Q3 o1 M.new.1 nx.2.1 nx.2.2;have le:PM.le W.F (W.Q3 x ob).F:=t2.le;have ap:∀ b o,b≠x->W.F b=none/\b∉J.T/\b∉W.QF.flatten->s'.heap.get? b=some o->Apart J (W.Q3 x ob) s'.heap b:=fun b o hb n e=>⟨by show (if b=x then some ob else W.F b)=none;rw [if_neg hb];exact n.1,n.2.1,n.2.2,o,e⟩
 obtain ⟨od,es,ep,hde,_⟩:=id RZ;obtain ⟨op,n,hpe,_⟩:=id M.pb;refine ⟨_,Qk.Xs (mo:= .lex 1 src []) (a:=x) (fp:=[dx,pA]) t2 (fun b hb=>?_) (by simpa using M.ne.2.1) ?_,rfl,?_⟩
 ·rcases aq.mp hb with rfl | hb
  ·exact ⟨ap _ _ M.ne.1 nd hde,M.new.2.1⟩
  ·simp at hb;subst hb;exact ⟨ap _ _ M.ne.2.2 np hpe,M.new.2.2⟩
 ·refine ⟨by simp,dx,pA,fv,t,u,#[],⟨ob,oN _ _ _,o2,o3,o4⟩,RZ,M.pb,by dsimp only [Qo],rfl,WO.mono le fun i a e=>?_⟩;show (W.as++[x])[i]? =some a;rw [bg (aj.mp e).1];exact e
 ·refine ⟨x,rfl,?_⟩;show (W.as++[x])[W.H.length]? =some x;rw [<-hw.Q9,aT (bN _)];simp
theorem FZ:∀ {ds:List D} {g g':G} {d:D} (fx:Fx J) (kl:Kl J) (h:sa ds g=some (d,g')),∃ fv,pN J "_netrclex" fv/\∀ {A W s vs},Qs 1 A->W.H=g->Qo J W.F W.as ds vs->Qn J W s->Ex J A (call fv vs) [] W s (li J d g'):=by iterate 7
 refine ⟨.ref J.cls,xq fx kl,fun {A W s vs} hA hg hd hw=>?_⟩;replace h:=qI h;obtain ⟨d0,h1,_,h2,h⟩:=h;cases oS h1;cases rR h2
 ·cases h;obtain ⟨v,rfl,rv⟩:=qC hd;cases (show v= .none from rv);refine xP fx kl (d:= .none) rv (fun F as v h=>h) hw (by have:=hA.2.1;omega) fun s' x dx pA M=>?_;obtain ⟨W',k,e,r⟩:=CZ (src:=none) hw M rfl;subst hg;exact ⟨W',k,e,r⟩
end
structure Tx (J:Cx):Prop where
 inj:∀ T∈J.tabs,∀ T'∈J.tabs,T.a=T'.a->T=T'
 hd:∀ T∈J.tabs,∀ h,HV J h->lT h T.c T.a
 bi:∃ mg,Ud (F0 J) bC mg/\∀ T∈J.tabs,∀ h,HV J h->h.BuiltinsAt mg T.a
 mn:∀ T∈J.tabs,bC≠T.a
section
variable {J:Cx} {A:bf} {W W0 W':Wd} {s s0 s1 s':ah} {X:List Addr}
theorem Qk.table:∀ {T:Tj} {h':Heap} {tk:Nat} {c':Addr} {oc:Obj} {vs:Array ag} {t:Tok} (tx:Tx J) (hT:T∈J.tabs) (hw:Qn J W s) (hx:fw T.a s.heap h') (hn:s.heap.get? c'=none) (Yj:h'.get? c'=some oc) (hd:oc.data= .fields vs) (hv:vs[1]? =some (.str T.q t)) (XK:h'.get? T.a=some (tO (#[]++#[m4 T.pos.line,m4 T.pos.col,.ref c']))),Qk J X W s (W.Q3 c' oc) {s with heap:=h',toks:=tk}:=by iterate 16
 have hTa:T.a∈J.T:=cM hT;have nc:=hw.QL hn;have le:PM.le W.F (W.Q3 c' oc).F:=fun b ob eb=>by
  show (if b=c' then some oc else W.F b)=some ob;by_cases hb:b=c'
  ·subst hb;rw [nc.1] at eb;cases eb
  ·rw [if_neg hb];exact eb
 have kk:∀ b o,b∉J.T->s.heap.get? b=some o->h'.get? b=some o:=fun b o hb e=>hx b o (fun q=>hb (q▸hTa)) e;have th:∀ b o,s.heap.get? b=some o->∃ o',h'.get? b=some o':=fun b o e=>by
  by_cases q:b=T.a
  ·subst q;exact ⟨_,XK⟩
  ·exact ⟨o,hx b o q e⟩
 have fN:∀ b∈W.QF.flatten,∀ o,s.heap.get? b=some o->h'.get? b=some o:=fun b hb o e=>kk b o (hw.RD b hb).2.1 e;exact {
  ok:={
   sub:=fun b ob eb=>by
    have TH:(if b=c' then some oc else W.F b)=some ob:=eb;by_cases hb:b=c'
    ·subst hb;rw [if_pos rfl] at TH;cases TH;exact Yj
    ·rw [if_neg hb] at TH;exact kk b ob (fun hm=>by rw [hw.Ry b hm] at TH;cases TH) (hw.sub _ _ TH)
   base:=fun b ob h1 h2=>le _ _ (hw.base b ob h1 h2)
   Ry:=fun b hb=>by show (if b=c' then some oc else W.F b)=none;rw [if_neg (fun (q:b=c')=>nc.2.1 (by rw [<-q];exact hb))];exact hw.Ry b hb
   low:=fun b o e=>(by obtain ⟨o',e'⟩:=hw.low b o e;exact th b o' e')
   tab:=fun T' VZ=>by
    by_cases q:T'.a=T.a
    ·have:=tx.inj T' VZ T hT q;subst this;exact .inr ⟨c',oc,vs,t,XK,oN _ _ _,hd,hv⟩
    ·exact (hw.tab T' VZ).keep le fun o e=>hx _ o q e
   Q9:=hw.Q9
   Rh:=hw.Rh
   obj:=fun i mo a fp h1 h2 h3=>(hw.obj i mo a fp h1 h2 h3).keep le (Pre.refl _) fun b hb o e=>fN b (qK h3 hb) o e
   nodup:=hw.nodup
   RD:=fun b hb=>by obtain ⟨z1,z2,o,z3⟩:=hw.RD b hb;refine ⟨?_,z2,o,fN b hb o z3⟩;show (if b=c' then some oc else W.F b)=none;rw [if_neg (fun (q:b=c')=>nc.2.2 (by rw [<-q];exact hb))];exact z1
   bare:=hw.bare
   os:=hw.os}
  le:=le
  fresh:=fun b ob eb=>by
   have TH:(if b=c' then some oc else W.F b)=some ob:=eb;by_cases hb:b=c'
   ·subst hb;exact .inr hn
   ·rw [if_neg hb] at TH;exact .inl TH
  keep:=fun b o h1 _ _ e=>kk b o h1 e
  there:=th
  as:=Pre.refl _
  QF:=fun _ e=> .inl e
  gens:=fun _ _ e=>e}
noncomputable def HF (J:Cx) (W:Wd) (s:ah) (q:Str) (W':Wd) (s':ah) (f c':Addr) (o:Obj):Prop:=
 Qk J [] W s W' s'/\W'.H=W.H/\s.heap.get? f=none/\s'.heap.get? f=some o/\Qv W'.F (.ref c') q/\∃ s2,Qk J [] W s W' s2/\s2.heap.get? f=none/\Qk J [] W' s2 W' s'
theorem Nj:∀ {T:Tj} {name qual:Str} {params:dD} {body:List Stmt} {scope:aX} {env:Env} {pos:Pos} {fl:Nat} {Th:List (Str×Addr)} {Q:ag->ah->Prop} {E:ag->ah->Prop} (tx:Tx J) (hT:T∈J.tabs) (Sl:eX scope env=pure Th) (YF:env.globals=bC) (Q6:env.code= .ref T.c) (Ru:pos=T.pos) (Vb:qual=T.q) (hw:Qn J W s) (hq:∀ f c' doc pm QR W' s',HF J W s qual W' s' f c' (dQ name qual params body scope Th doc pm c' QR)->Q (.ref f) s'),aD (aC P0 J.w) A (makeFunction name qual params (.stmts body) scope env [] [] [] pos fl) Q E s:=by iterate 21
 subst Ru;subst Vb;obtain ⟨mg,Ux,VY⟩:=tx.bi;have YE:=tx.hd T hT _ hw.Qw;rcases hw.tab T hT with h0 | ⟨c',oc,vs,t,h1,h2,h3,h4⟩
 ·refine PySem.W.makeFunction_K Sl YF (Ux.ns hw.Qw) Q6 YE h0 trivial rfl (tx.mn T hT) (VY T hT _ hw.Qw) fun c' QR doc h' tk hx Xe RJ WT XK=>?_;obtain ⟨c2,oc,vs,t,e2,Yj,hd,hv⟩:=WT;cases e2;have hn:s.heap.get? c'=none:=ik Xe;have k1:=Qk.table (X:=[]) (tk:=tk) tx hT hw hx hn Yj hd hv XK;have k2:=Qk.push (X:=[]) (tk:=tk) k1.ok (dQ name T.q params body scope Th doc ((mg "__name__").getD .none) c' QR);exact hq _ _ _ _ _ _ _ ⟨k1.Qi k2,rfl,k1.Qt (bn h'),ax _ rfl,⟨c',oc,vs,t,rfl,oN _ _ _,hd,hv⟩,_,k1,bn h',k2⟩
 ·refine PySem.W.makeFunction_hit Sl YF (Ux.ns hw.Qw) Q6 YE h1 trivial (cv:= .ref c') (by unfold mi;simp [m4,mi]) (VY T hT _ hw.Qw) fun QR doc h' tk hk Rm=>?_;have k1:Qk J [] W s W {s with heap:=h',toks:=tk}:=Qk.grow (X:=[]) hw (fun b o _ e=>hk b o e) (fun b o e=>⟨o,hk b o e⟩) (by simp) rfl rfl;have k2:=Qk.push (X:=[]) (tk:=tk) k1.ok (dQ name T.q params body scope Th doc ((mg "__name__").getD .none) c' QR);exact hq _ _ _ _ _ _ _ ⟨k1.Qi k2,rfl,k1.Qt (bn h'),ax _ rfl,⟨c',oc,vs,t,rfl,h2,h3,h4⟩,_,k1,bn h',k2⟩
theorem Lg:∀ {T:Tj} {name qual:Str} {params:dD} {body:Expr} {scope:aX} {env:Env} {pos:Pos} {fl:Nat} {Th:List (Str×Addr)} {Q:ag->ah->Prop} {E:ag->ah->Prop} (tx:Tx J) (hT:T∈J.tabs) (Sl:eX scope env=pure Th) (YF:env.globals=bC) (Q6:env.code= .ref T.c) (Ru:pos=T.pos) (Vb:qual=T.q) (hw:Qn J W s) (hq:∀ f c' pm QR W' s',HF J W s qual W' s' f c' (cj name qual params body scope Th pm c' QR)->Q (.ref f) s'),aD (aC P0 J.w) A (makeFunction name qual params (.expr body) scope env [] [] [] pos fl) Q E s:=by iterate 21
 subst Ru;subst Vb;obtain ⟨mg,Ux,VY⟩:=tx.bi;have YE:=tx.hd T hT _ hw.Qw;rcases hw.tab T hT with h0 | ⟨c',oc,vs,t,h1,h2,h3,h4⟩
 ·refine PySem.W.kla_makeFunction Sl YF (Ux.ns hw.Qw) Q6 YE h0 trivial rfl (tx.mn T hT) (VY T hT _ hw.Qw) fun c' QR h' tk hx Xe RJ WT XK=>?_;obtain ⟨c2,oc,vs,t,e2,Yj,hd,hv⟩:=WT;cases e2;have hn:s.heap.get? c'=none:=ik Xe;have k1:=Qk.table (X:=[]) (tk:=tk) tx hT hw hx hn Yj hd hv XK;have k2:=Qk.push (X:=[]) (tk:=tk) k1.ok (cj name T.q params body scope Th ((mg "__name__").getD .none) c' QR);exact hq _ _ _ _ _ _ ⟨k1.Qi k2,rfl,k1.Qt (bn h'),ax _ rfl,⟨c',oc,vs,t,rfl,oN _ _ _,hd,hv⟩,_,k1,bn h',k2⟩
 ·refine PySem.W.kla_makeFunctionHit Sl YF (Ux.ns hw.Qw) Q6 YE h1 trivial (cv:= .ref c') (by unfold mi;simp [m4,mi]) (VY T hT _ hw.Qw) fun QR h' tk hk Rm=>?_;have k1:Qk J [] W s W {s with heap:=h',toks:=tk}:=Qk.grow (X:=[]) hw (fun b o _ e=>hk b o e) (fun b o e=>⟨o,hk b o e⟩) (by simp) rfl rfl;have k2:=Qk.push (X:=[]) (tk:=tk) k1.ok (cj name T.q params body scope Th ((mg "__name__").getD .none) c' QR);exact hq _ _ _ _ _ _ ⟨k1.Qi k2,rfl,k1.Qt (bn h'),ax _ rfl,⟨c',oc,vs,t,rfl,h2,h3,h4⟩,_,k1,bn h',k2⟩
end
noncomputable def xL (J:Cx) (f q:Str) (pos:Pos):Prop:=∃ T∈J.tabs,T.q=q/\T.pos=pos/\∃ mg mb a o fd,Ud (F0 J) bC mg/\Ud (F0 J) bU mb/\mg f=some (.ref a)/\F0 J a=some o/\o.data= .func fd/\fd.code= .ref T.c/\fd.qualname=f/\∀ fn,o8 P0 f=some fn->FnAt J (F0 J) a fn
noncomputable def M6:aX:=(.mk .function [("text",.local),("stream",.local),("signs",.cell),("list",.globalImplicit),("_netrclex",.globalImplicit)] false false [])
noncomputable def Ui:Fn:=⟨["text"],M6,
 [(.Assign [(.Name "signs" ⟨246,4,246,9⟩)] (.Call (.Name "list" ⟨246,12,246,16⟩) [(.Name "text" ⟨246,17,246,21⟩)] [] ⟨246,12,246,22⟩) ⟨246,4,246,22⟩),
  (.Assign [(.Name "stream" ⟨247,4,247,10⟩)] (.Call (.Name "_netrclex" ⟨247,13,247,22⟩) [(.Constant .none 0 ⟨247,23,247,27⟩)] [] ⟨247,13,247,28⟩) ⟨247,4,247,28⟩),
  (.Assign [(.Attribute (.Name "stream" ⟨248,4,248,10⟩) "read" ⟨248,4,248,15⟩)] (.Lambda wq uV oV uD) ⟨248,4,248,78⟩),
  (.Return (some (.Call (.Name "_netrclex" ⟨249,11,249,20⟩) [(.Name "stream" ⟨249,21,249,27⟩)] [] ⟨249,11,249,28⟩)) ⟨249,4,249,28⟩)]⟩
theorem AV:o8 P0 "_law_lexer" =some Ui:=by iterate 0 rfl'
section
variable {J:Cx} {A:bf} {W W0 W':Wd} {s s0 s1 s':ah} {X:List Addr}
theorem FL:∀ {x:List Nat},∀ {n:Nat} {vs:List ag},vs.length=(x.drop n).length->(∀ j v,vs[j]? =some v->∃ c u,x[n+j]? =some c/\v= .str ⟨#[c]⟩ u)->xw (x.drop n) vs:=by iterate 1
 intro n vs;generalize hd:x.drop n=y;intro hl h;induction y generalizing n vs with
 | nil=>simp at hl;subst hl;dsimp only [xw]
 | cons c r ih=>
  cases vs with
  | nil=>simp at hl
  | cons v vr=>
   obtain ⟨c',u,h1,rfl⟩:=h 0 v rfl;have hc:x[n+0]? =some c:=by
    have:(x.drop n)[0]? =some c:=by rw [hd];rfl
    rw [fJ] at this;exact this
   rw [hc] at h1;cases h1;refine ⟨_,vr,rfl,⟨u,rfl⟩,ih (n:=n+1) ?_ (by simpa using hl) fun j w hj=>?_⟩
   ·have:=congrArg jA hd;rw [List.tail_drop] at this;exact this
   ·have:=h (j+1) w (by simpa using hj);rw [show n+1+j=n+(j+1) by omega];exact this
theorem xQ:∀ {a:Addr} {o:Obj} (t:Qk J X W s W' s') (n:W.F a=none/\a∉J.T/\a∉W.QF.flatten) (hX:a∉X) (e:s.heap.get? a=some o),s'.heap.get? a=some o:=by iterate 6 exact (t.keep _ _ n.2.1 n.2.2 hX e)
theorem p7:∀ {a b:Addr} {o:Obj} (h:W.F b=none) (Rl:b≠a),(W.Q3 a o).F b=none:=by iterate 5 show (if b=a then some o else W.F b)=none;rw [if_neg Rl];exact h
theorem xg:∀ {a:Addr} {o:Obj} (h:W.F a=none),PM.le W.F (W.Q3 a o).F:=by iterate 3
 exact (fun b ob e=>by
 show (if b=a then some o else W.F b)=some ob;by_cases q:b=a
 ·subst q;rw [h] at e;cases e
 ·rw [if_neg q];exact e)
theorem AT:∀ {ds:List D} {g g':G} {d:D} (fx:Fx J) (kl:Kl J) (tx:Tx J) (tf:xL J "_law_lexer" "_law_lexer.<locals>.<lambda>" uD) (h:uO ds g=some (d,g')),∃ fv,pN J "_law_lexer" fv/\∀ {A W s vs},Qs 1 A->W.H=g->Qo J W.F W.as ds vs->Qn J W s->Ex J A (call fv vs) [] W s (li J d g'):=by iterate 9
 obtain ⟨T,hT,YS,YT,mg,mb,a,o,fd,Ux,Yu,Yv,hF,Wo,Q6,XM,Qz⟩:=tf;have Qz:=Qz _ AV;refine ⟨.ref a,ud Ux Yu Yv Qz,fun {A W s vs} hA hg hd hw=>?_⟩;replace h:=qI h;obtain ⟨d0,h1,x,h2,h⟩:=h;cases oS h1;cases oK h2;cases h;obtain ⟨v,rfl,rv⟩:=qC hd;have QS:x.length<=lim:=rv.1;refine eV (vd (ds:=[.str x]) fx Qz rfl (by have:=hA.2.1;omega) hd hw fun env Qg R z0=>?_);obtain ⟨o',fd',Wt,TF,Tf⟩:=z0;rw [hF] at Wt;cases Wt;rw [Wo] at TF;cases TF;have QY:(A.deeper env).handled=none:=hA.1;have YK:(A.deeper env).depth+4<cw:=by show A.depth+1+4<_;have:=hA.2.1;omega
 show aD _ _ (gg Ui.body env) _ _ _;unfold Ui
 -- signs
 obtain ⟨v1,Se,r1⟩:=R.R.vars "text" (.str x) (by rfl');dsimp only [Rd] at r1;obtain ⟨_,t1,rfl⟩:=r1;have cl:=uo fx (f:="list") (by decide);refine ao (bj (bH (bk R.R.kind (R.R.global (by rfl')) (cl.1.load R.R R.ok ?_) (by decide))) rfl);refine pa (first:=[]) cl rfl ?_;refine aR (bq (db Se R.R.kind (by decide) ?_) (by decide)) rfl;refine aZ ⟨R.ok.Qw,?_⟩;have Zy:x.length<=dw:=bw QS pe;refine call_list_str QY ⟨x.toArray⟩ t1 (fun h2 Zk acc c2 hk2 hS Uc=>?_) (by simpa using Zy);have k2:Qk J [] W Qg W {Qg with heap:=h2,toks:=Zk}:=Qk.grow (X:=[]) R.ok (fun b o _ e=>hk2 b o e) (fun b o e=>⟨o,hk2 b o e⟩) (by simp) rfl rfl;have nS:Qg.heap.get? Qg.heap.objs.size=none:=bn _;have WC:=R.ok.QL nS;have ZQ:Qg.heap.objs.size∉am env:=fun hm=>R.QW nS (aE _ hm);have R2:=R.expr k2;refine af (R2.store (x:="signs") (v:= .ref Qg.heap.objs.size) (d:= .raw Qg.heap.objs.size) (by decide) rfl (by dsimp only [Rd])) (fun _ s3 z1=>?_) fun _ _ f=>f;obtain ⟨k3,R3⟩:=z1;have hS3:=xQ k3 WC ZQ hS
 -- stream
 have cc:=xq fx kl;refine ao (bj (bH (bk R3.R.kind (R3.R.global (by rfl')) (cc.1.load R3.R R3.ok ?_) (by decide))) rfl);refine pa (first:=[]) cc rfl ?_;refine aR (mK ?_) rfl;refine aZ ⟨R3.ok.Qw,?_⟩;refine xP fx kl (d:= .none) (by dsimp only [Rd]) (fun F as v h=>by exact h) R3.ok YK fun s4 x1 Uq pA1 M=>?_;have R4:=R3.expr M.tr;have x1f:x1∉am env:=fun hm=>R3.QW M.new.1 (aE _ hm);have d1f:Uq∉am env:=fun hm=>R3.QW M.new.2.1 (aE _ hm);refine af (R4.store (x:="stream") (v:= .ref x1) (d:= .raw x1) (by decide) rfl (by dsimp only [Rd])) (fun _ s5 z2=>?_) fun _ _ f=>f;obtain ⟨k5,R5⟩:=z2;obtain ⟨ob,o1,o2,o3,o4⟩:=M.ob;obtain ⟨tl,ul,RZ⟩:=M.ns;have nx:=R3.ok.QL M.new.1;have nd:=R3.ok.QL M.new.2.1;have hS4:=xQ M.tr WC (by simp) hS3;have XA:Apart J W s5.heap Qg.heap.objs.size:=⟨WC.1,WC.2.1,WC.2.2,_,xQ k5 WC ZQ hS4⟩
 have hS5:=xQ k5 WC ZQ hS4;have hx5:=xQ k5 nx x1f o1;have Xx:Apart J W s5.heap x1:=⟨nx.1,nx.2.1,nx.2.2,_,hx5⟩
 have Yn:s5.heap.Ns1 Uq _:=Ns1.keep RZ fun o e=>xQ k5 nd d1f e;have V5:Apart J W s5.heap Uq:=⟨nd.1,nd.2.1,nd.2.2,(by obtain ⟨o,_,_,e,_⟩:=Yn;exact ⟨o,e⟩)⟩
 -- Wz lambda
 have aaO:∃ c,env.cells.lookup ("signs" :Str)=some c/\s5.heap.IsCell c (some (.ref Qg.heap.objs.size)):=by
  obtain ⟨v,hv,rv⟩:=R5.R.vars "signs" (.raw Qg.heap.objs.size) (by rfl');dsimp only [Rd] at rv;subst rv;rcases hv with ⟨hk,_⟩ | ⟨_,c,h1,h2⟩
  ·rcases R5.R.kd "signs" .cell (by rfl') with q | ⟨q,_⟩
   ·rw [q] at hk;cases hk
   ·cases q
  ·exact ⟨c,h1,h2⟩
 obtain ⟨c,hc,Xk⟩:=aaO;have Vn:c∈am env:=av _ (aH.mpr ⟨_,al hc,rfl⟩);have Tg:eX oV env=pure [(("signs" :Str),c)]:=by
  have:=sL (scope:=oV) (env:=env) fun y hy=>by simp [oV] at hy;subst hy;exact ⟨c,hc⟩
  rw [this];congr 1;show [(("signs" :Str),(env.cells.lookup ("signs" :Str)).getD 0)]=_;rw [hc];rfl
 refine ao (jG (PySem.W.kla_eval rfl (Lg tx hT Tg R5.R.glob (by rw [Tf];exact Q6) YT.symm (by rw [Tf,YS];show (fd.qualname++".<locals>.")++"<lambda>" =_;rw [XM];rfl') R5.ok fun f c' pm QR W6 s6 MF=>?_)) rfl);obtain ⟨t6,g6,nf,of6,ZC,s6',t6a,nf6,t6b⟩:=MF;have UZ:=t6a.ok.QL nf6;have R6:=R5.expr t6;obtain ⟨v6,hv6,r6⟩:=R6.R.vars "stream" (.raw x1) (by rfl');dsimp only [Rd] at r6;subst r6;refine bq (db hv6 R6.R.kind (by decide) ?_) (by decide);have Xz:=XA.keep t6;have UG:=Xx.keep t6;have UH:=V5.keep t6;have hS6:=XA.at t6 (by simp) _ hS5;have hx6:=Xx.at t6 (by simp) _ hx5;have aaV:s6.heap.Ns1 Uq _:=Ns1.keep Yn fun o e=>V5.at t6 (by simp) o e;have wi:gY (tN (.int 1 tl) .none (.str "\n\t\r " ul) pA1) ["lineno","instream","whitespace","pushback"]:=fun y hy=>by
  unfold tN at hy;by_cases q1:y="lineno"
  ·simp [q1]
  by_cases q2:y="instream"
  ·simp [q2]
  by_cases q3:y="whitespace"
  ·simp [q3]
  by_cases q4:y="pushback"
  ·simp [q4]
  rw [if_neg q1,if_neg q2,if_neg q3,if_neg q4] at hy;exact absurd rfl hy
 refine af (IS.set (s1:=s6) (name:="read") (v:= .ref f) kl ⟨R6.R,Qk.refl R6.ok,⟨ob,hx6,o2,o3,o4⟩,aaV,M.ne.1,d1f,⟨UH.1,UH.2.1,UH.2.2.1⟩,⟨UG.1,UG.2.1,UG.2.2.1⟩⟩ (by decide) yK wi (by decide)) (fun _ s7 I7=>?_) fun _ _ f=>f;have R7:=R6.S6 I7.tr (fun b hb=> .inr (.inr (by simp at hb;subst hb;exact ⟨R3.RH M.new.2.1,R3.tr.Qt M.new.2.1⟩))) I7.er
 -- Wz second call;Wz ab7 is frozen first
 have Xy:=Xz.keep I7.tr;have dS:Qg.heap.objs.size∉[Uq]:=fun hm=>by simp at hm;have:=M.new.2.1;rw [<-hm,hS3] at this;cases this
 have hS7:=Xz.at I7.tr dS _ hS6;have of7:s7.heap.get? f=some (cj "<lambda>" (env.qual++"<lambda>") wq uV oV [("signs",c)] pm c' QR):=I7.tr.keep _ _ UZ.2.1 UZ.2.2 (fun hm=>by simp at hm;subst hm;obtain ⟨o,e⟩:=V5.2.2.2;rw [nf] at e;cases e) of6;have Xj:∃ oc,s7.heap.get? c=some oc/\oc.data= .cell (some (.ref Qg.heap.objs.size)):=by
  obtain ⟨v,hv,rv⟩:=R7.R.vars "signs" (.raw Qg.heap.objs.size) (by rfl');dsimp only [Rd] at rv;subst rv;rcases hv with ⟨hk,_⟩ | ⟨_,c1,h1,o,h2,h3⟩
  ·rcases R7.R.kd "signs" .cell (by rfl') with q | ⟨q,_⟩
   ·rw [q] at hk;cases hk
   ·cases q
  ·rw [hc] at h1;cases h1;exact ⟨o,h2,h3⟩
 obtain ⟨oc,oc1,oc2⟩:=Xj;obtain ⟨XH,x7,y2,y3,y4⟩:=I7.ob;obtain ⟨od,es,ep,d7,dn1,dn2,dn3,dn4⟩:=I7.ns
 -- adL Z0
 have cS:s.heap.get? c=none:=R7.fr c Vn;have hc5:∃ o,s5.heap.get? c=some o:=by obtain ⟨o,e,_⟩:=Xk;exact ⟨o,e⟩
 have ex5:∀ b,(∃ o,s5.heap.get? b=some o)->b≠f:=fun b z3 q=>by obtain ⟨o,e⟩:=z3;rw [q,nf] at e;cases e
 have cf:c≠f:=ex5 c hc5;have Z6:x1≠f:=ex5 x1 Xx.2.2.2;have abW:Uq≠f:=ex5 Uq V5.2.2.2;have Sf':Qg.heap.objs.size≠f:=ex5 _ XA.2.2.2;have cx:x1≠c:=fun q=>x1f (q▸Vn);have cd:Uq≠c:=fun q=>d1f (q▸Vn);have Sc:Qg.heap.objs.size≠c:=fun q=>ZQ (q▸Vn);have Sx:Qg.heap.objs.size≠x1:=fun q=>by have:=M.new.1;rw [<-q,hS3] at this;cases this
 have Sd:Qg.heap.objs.size≠Uq:=fun q=>dS (by simp [q]);have fS:s.heap.get? f=none:=R5.tr.Qt nf;have xS:s.heap.get? x1=none:=R3.tr.Qt M.new.1;have dSn:s.heap.get? Uq=none:=R3.tr.Qt M.new.2.1;have SS:s.heap.get? Qg.heap.objs.size=none:=R.tr.Qt nS;have zc:=R7.R.apart c (aE _ Vn);have cF:W6.F c=none:=R7.R.Vx hc (by
  rcases R7.R.kd "signs" .cell (by rfl') with q | ⟨q,_⟩
  ·exact q
  ·cases q)
 -- Wz Z8
 have t8:=R7.tr.Q3 of7 fS UZ.2.1 UZ.2.2;have t9:=t8.Q3 oc1 cS zc.2.1 zc.2.2.1;have t10:=t9.Q3 x7 xS UG.2.1 UG.2.2.1;have t11:=t10.Q3 d7 dSn UH.2.1 UH.2.2.1;have l8:=xg (o:=cj "<lambda>" (env.qual++"<lambda>") wq uV oV [("signs",c)] pm c' QR) UZ.1;have l9:=xg (o:=oc) (p7 (o:=cj "<lambda>" (env.qual++"<lambda>") wq uV oV [("signs",c)] pm c' QR) cF cf);have n10:(((W6.Q3 f (cj "<lambda>" (env.qual++"<lambda>") wq uV oV [("signs",c)] pm c' QR)).Q3 c oc)).F x1=none:=p7 (p7 UG.1 Z6) cx;have l10:=xg (o:=XH) n10;have n11:((((W6.Q3 f (cj "<lambda>" (env.qual++"<lambda>") wq uV oV [("signs",c)] pm c' QR)).Q3 c oc)).Q3 x1 XH).F Uq=none:=p7 (p7 (p7 UH.1 abW) cd) M.ne.1;have X6:=xg (o:=od) n11;have X5:=p7 (o:=od) (p7 (o:=XH) (p7 (o:=oc) (p7 (o:=cj "<lambda>" (env.qual++"<lambda>") wq uV oV [("signs",c)] pm c' QR) Xy.1 Sf') Sc) Sx) Sd;generalize Xo:((((W6.Q3 f (cj "<lambda>" (env.qual++"<lambda>") wq uV oV [("signs",c)] pm c' QR)).Q3 c oc)).Q3 x1 XH).Q3 Uq od=TN at t11 X6 X5;have ZU:TN.H=W.H:=by rw [<-Xo];exact g6
 have f11:TN.QF=W6.QF:=by rw [<-Xo];rfl
 have Fd:TN.F Uq=some od:=by rw [<-Xo];exact oN _ _ _
 have Fx':TN.F x1=some XH:=X6 _ _ (oN _ _ _);have Fc:TN.F c=some oc:=X6 _ _ (l10 _ _ (oN _ _ _));have Ff:TN.F f=some (cj "<lambda>" (env.qual++"<lambda>") wq uV oV [("signs",c)] pm c' QR):=X6 _ _ (l10 _ _ (l9 _ _ (oN _ _ _)));have l6:PM.le W6.F TN.F:=((l8.trans l9).trans l10).trans X6;have WR:RF J TN.F (TN.as++[Qg.heap.objs.size]) s7.heap (.sg x) Qg.heap.objs.size [Qg.heap.objs.size]:=by refine ⟨QS,rfl,acc,⟨_,_,hS7,rfl,rfl,rfl⟩,?_⟩;have:=FL (x:=x) (n:=0) (vs:=acc.toList) (by rw [bA,Uc.1];simp) (fun j v hj=>by have:=Uc.2 j v (by simpa using hj);obtain ⟨c,u,h1,h2⟩:=this;exact ⟨c,u,by simpa using h1,h2⟩);simpa using this
 have Zm:=Qk.Xs (mo:= .sg x) (a:=Qg.heap.objs.size) (fp:=[Qg.heap.objs.size]) t11 (fun b hb=>by simp at hb;subst hb;exact ⟨⟨X5,Xy.2.1,by rw [f11];exact Xz.2.2.1,Xy.2.2.2⟩,SS⟩) (by simp) WR;generalize Xn:(⟨TN.F,TN.H++[.sg x],TN.as++[Qg.heap.objs.size],TN.QF++[[Qg.heap.objs.size]]⟩:Wd)=V6 at Zm;have hj:V6.as[W.H.length]? =some Qg.heap.objs.size:=by rw [<-Xn];show (TN.as++[Qg.heap.objs.size])[W.H.length]? =_;rw [<-ZU,<-t11.ok.Q9,aT (bN _)];simp
 have F12:V6.F=TN.F:=by rw [<-Xn]
 have g12:V6.H=W.H++[.sg x]:=by rw [<-Xn,<-ZU]
 have WO:SrcAt J V6.F V6.as (.ref x1) (some W.H.length):=by
  rw [F12];obtain ⟨cc',occ,Z9,tt,hcc,hF6,hdd,hvv⟩:=ZC;cases hcc;refine ⟨x1,Uq,f,c,Qg.heap.objs.size,_,oc,rfl,⟨XH,Fx',y2,y3,y4⟩,M.ne.1,⟨od,es,ep,Fd,dn1,dn2,dn3,dn4⟩,?_,Fc,oc2,hj⟩;have hq:env.qual++"<lambda>" ="_law_lexer.<locals>.<lambda>" :=by rw [Tf];show (fd.qualname++".<locals>.")++"<lambda>" =_;rw [XM];rfl'
  exact ⟨Ui,wq,uV,oV,uD,_,pm,.ref c',QR,c',occ,Z9,tt,AV,by rfl,Ff,by rw [hq];rfl,rfl,l6 _ _ hF6,hdd,by rw [<-hq];exact hvv⟩
 obtain ⟨v7,hv7,r7⟩:=R7.R.vars "stream" (.raw x1) (by rfl');dsimp only [Rd] at r7;subst r7;refine ao (cm (bH (bk R7.R.kind (R7.R.global (by rfl')) (cc.1.load R7.R R7.ok ?_) (by decide))));refine pa (first:=[]) cc rfl ?_;refine aR (bq (db hv7 R7.R.kind (by decide) ?_) (by decide)) rfl;refine aZ ⟨R7.ok.Qw,?_⟩;refine xP fx kl (W:=V6) (d:= .raw x1) (by dsimp only [Rd]) (fun F as v h=>by exact h) Zm.ok YK fun s8 x2 dx2 pA2 M2=>?_;obtain ⟨Zg,X8,g13,r13⟩:=CZ Zm.ok M2 WO;subst hg;refine ⟨Zg,Zm.Qi X8,?_,?_⟩
 ·rw [g13,g12,bK];rfl
 ·rw [g12] at r13;simpa using r13
end
section
variable {J:Cx} {A:bf} {W W0 W':Wd} {s s0 s1 s':ah} {X:List Addr} {sc:aX} {st:St} {env:Env}
structure FS (J:Cx) (X:List Addr) (W0:Wd) (s0:ah) (sc:aX) (env:Env) (st:St) (W:Wd) (s:ah):Prop where
 tr:Qk J X W0 s0 W s
 er:Ql J W s.heap sc st env []
 nl:s0.heap.get? env.locals=none
 nc:∀ x,sc.names.lookup x≠some .cell
theorem FS.expr:∀ (F:FS J X W0 s0 sc env st W s) (t:Qk J [] W s W' s'),FS J X W0 s0 sc env st W' s':=by iterate 2 exact (⟨F.tr.Qi t,F.er.QB t,F.nl,F.nc⟩)
theorem FS.store:∀ {x:Str} {v:ag} {d:D} (F:FS J X W0 s0 sc env st W s) (hx:pK sc x=true) (Tz:oO st x=true) (rd:Rd J W.F W.as d v),aD (aC P0 J.w) A (gV env x v) (fun _ s'=>FS J X W0 s0 sc env (st.withRho ((x,d)::st.ρ)) W s') (fun _ _=>False) s:=by iterate 7 exact (af (vB (Y:=[env.locals]) F.er F.tr.ok hx rd Tz ⟨fun _=>by simp,fun q=>absurd q (F.nc x)⟩) (fun _ s' z0=>by obtain ⟨k,R⟩:=z0;exact ⟨F.tr.trans k (fun a ha=>by simp at ha;subst ha;exact .inr F.nl),R,F.nl,F.nc⟩) fun _ _ f=>f)
theorem FS.weaken:∀ (F:FS J [] W0 s0 sc env st W s),FS J X W0 s0 sc env st W s:=by iterate 1 exact (⟨F.tr.weaken (by simp),F.er,F.nl,F.nc⟩)
theorem FS.Y7:∀ (F:FS J X W0 s0 sc env st W s) (t:Qk J X W s W' s') (hX:∀ a∈am env,a∉X),FS J X W0 s0 sc env st W' s':=by iterate 3 exact (⟨F.tr.RL t,F.er.keep t (by simpa using hX),F.nl,F.nc⟩)
theorem Dx:∀ {f c':Addr} {name q:Str} {params:dD} {body:List Stmt} {cl:List (Str×Addr)} {doc pm QR:ag} {ps:List Str} {ds:List D} {vs:List ag} {up:Qm} {Q:ag->ah->Prop} (fx:Fx J) (hF:s.heap.get? f=some (dQ name q params body sc cl doc pm c' QR)) (RC:Qv W.F (.ref c') q) (hb:iD (mS name q params body sc cl .none .none doc pm none (.ref c') QR) ⟨vs,[]⟩=pure (ps.zip vs)) (Td:∀ x∈ps,sc.names.lookup x=some .local) (Ua:cr ps=true) (RA:∀ x:Str×eN,x∈sc.names->x.2≠ .cell) (hk:sc.kind= .function) (YM:sc.isCoroutine=false) (Uy:sc.isGenerator=false) (Yc:∀ x d,up.lookup x=some d->∃ c v,cl.lookup x=some c/\s.heap.IsCell c (some v)/\Rd J W.F W.as d v) (Vn:∀ x,sc.names.lookup x=some .free->∃ c v,cl.lookup x=some c/\s.heap.IsCell c v) (Xc:∀ x y c,cl.lookup x=some c->cl.lookup y=some c->x=y) (Sl:∀ p∈cl,p.2∉J.T/\p.2∉W.QF.flatten/\∃ o,s.heap.get? p.2=some o) (S1:∀ x c,cl.lookup x=some c->sc.names.lookup x=some .free) (hd:Qo J W.F W.as ds vs) (hw:Qn J W s) (hA:A.depth<cw) (h:∀ env Qg,env.cells=cl->FS J [] W s sc env ⟨ps.zip ds,up,none⟩ W Qg->aD (aC P0 J.w) (A.deeper env) (gg body env) (fun f s'=>Q (match f with | .ret v=>v | _=> .none) s') (fun _ _=>False) Qg),aD (aC P0 J.w) A (call (.ref f) vs) Q (fun _ _=>False) s:=by iterate 34
 obtain ⟨cc,oc,Z9,t',hcc,hF6,h7,h8⟩:=RC;cases hcc;refine eV (codeAny_call_function hA hF rfl YM Uy rfl ⟨c',oc,Z9,t',rfl,hw.sub _ _ hF6,h7,h8⟩ ?_);rw [hb];refine ay (fA (scope:=sc) RA (fun x hx=>Td _ (hE hx).1) (fun QZ RZ WS=>?_) hk);have hx:fw s.heap.objs.size s.heap QZ:=fun b o hb e=>WS.extBut b o hb (aF _ e);have t1:=hw.SJ (tk:=s.toks+(ps.zip vs).length) hx;have n0:=hw.QL (bn s.heap);have kk:∀ b o,s.heap.get? b=some o->QZ.get? b=some o:=fun b o e=>hx b o (fun q=>by rw [q,bn] at e;cases e) e;refine ⟨?_,codeAny_func ?_⟩
 ·obtain ⟨mc,q1,q2⟩:=fx.SD;exact ⟨mc,q1.ns t1.ok.Qw,q2⟩
 have R:Ql J W QZ sc ⟨ps.zip ds,up,none⟩ (m5 sc s.heap.objs.size bC cl (q++".<locals>.") (some f) (.ref c') none bU) []:=by
  refine AD hk Ua RZ hd (fun x d e _=>e) RA (fun x d e=>?_) (fun x e=>?_) Xc ⟨n0.1,n0.2.1,n0.2.2,(by obtain ⟨o,_,_,e,_⟩:=RZ;exact ⟨o,e⟩)⟩ (fun p hp=>?_) S1
  ·obtain ⟨c,v,z1,z2,z3⟩:=Yc x d e;exact ⟨c,v,z1,IsCell.keep z2 (kk c),z3⟩
  ·obtain ⟨c,v,z1,z2⟩:=Vn x e;exact ⟨c,v,z1,IsCell.keep z2 (kk c)⟩
  ·obtain ⟨z1,z2,o,z3⟩:=Sl p hp;exact ⟨fun e=>(by rw [e,bn] at z3;cases z3),z1,z2,o,kk _ _ z3⟩
 refine af (h _ _ rfl ⟨t1,R,bn _,fun x e=>RA _ (al e) rfl⟩) (fun fl s' hq=>hq) fun _ _ f=>f.elim
structure S3 (J:Cx) (sc:aX) (q:Str) (params:dD) (body:List Stmt) (f c':Addr) (doc pm QR:ag) (cl:List (Str×Addr)) (up:Qm) (W:Wd) (s:ah):Prop where
 hF:s.heap.get? f=some (dQ "inner" q params body sc cl doc pm c' QR)
 Z1:Apart J W s.heap f
 RC:Qv W.F (.ref c') q
 cells:∀ x d,up.lookup x=some d->∃ c v,cl.lookup x=some c/\s.heap.IsCell c (some v)/\Rd J W.F W.as d v/\Apart J W s.heap c
 keys:∀ p∈cl,∃ d,up.lookup p.1=some d/\cl.lookup p.1=some p.2
 inj:∀ x y c,cl.lookup x=some c->cl.lookup y=some c->x=y
variable {q:Str} {params:dD} {body:List Stmt} {f c':Addr} {doc pm QR:ag} {cl:List (Str×Addr)} {up:Qm}
theorem Qv.mono:∀ {F F':PM} {cd:ag} (h:PM.le F F') (x:Qv F cd q),Qv F' cd q:=by iterate 5 obtain ⟨c,o,vs,t,e,g,r⟩:=x;exact ⟨c,o,vs,t,e,h _ _ g,r⟩
theorem S3.V9:∀ (C:S3 J sc q params body f c' doc pm QR cl up W s) (t:Qk J X W s W' s') (hf:f∉X) (hX:∀ x c,cl.lookup x=some c->c∉X),S3 J sc q params body f c' doc pm QR cl up W' s':=by iterate 4 refine ⟨C.Z1.at t hf _ C.hF,C.Z1.keep t,C.RC.mono t.le,fun x d e=>?_,C.keys,C.inj⟩;obtain ⟨c,v,h1,h2,h3,h4⟩:=C.cells x d e;exact ⟨c,v,h1,IsCell.keep h2 (h4.at t (hX x c h1)),h3.mono t.le t.as,h4.keep t⟩
theorem S3.step:∀ (C:S3 J sc q params body f c' doc pm QR cl up W s) (t:Qk J [] W s W' s') (_h:True),S3 J sc q params body f c' doc pm QR cl up W' s':=by iterate 3 exact (C.V9 t (by simp) (by simp))
theorem S3.enter:∀ {ps:List Str} {ds:List D} {vs:List ag} {Q:ag->ah->Prop} (fx:Fx J) (C:S3 J sc q params body f c' doc pm QR cl up W s) (hb:iD (mS "inner" q params body sc cl .none .none doc pm none (.ref c') QR) ⟨vs,[]⟩=pure (ps.zip vs)) (Td:∀ x∈ps,sc.names.lookup x=some .local) (Ua:cr ps=true) (RA:∀ x:Str×eN,x∈sc.names->x.2≠ .cell) (hk:sc.kind= .function) (YM:sc.isCoroutine=false) (Uy:sc.isGenerator=false) (YH:∀ x,sc.names.lookup x=some .free->(up.lookup x).isSome=true) (S1:∀ x,(up.lookup x).isSome=true->sc.names.lookup x=some .free) (hd:Qo J W.F W.as ds vs) (hw:Qn J W s) (hA:A.depth<cw) (h:∀ env Qg,env.cells=cl->FS J [] W s sc env ⟨ps.zip ds,up,none⟩ W Qg->S3 J sc q params body f c' doc pm QR cl up W Qg->aD (aC P0 J.w) (A.deeper env) (gg body env) (fun f s'=>Q (match f with | .ret v=>v | _=> .none) s') (fun _ _=>False) Qg),aD (aC P0 J.w) A (call (.ref f) vs) Q (fun _ _=>False) s:=by iterate 19
 refine Dx fx C.hF C.RC hb Td Ua RA hk YM Uy (fun x d e=>?_) (fun x e=>?_) C.inj (fun p hp=>?_) (fun x c e=>?_) hd hw hA (fun env Qg hec F=>h env Qg hec F (C.step F.tr trivial))
 ·obtain ⟨c,v,h1,h2,h3,_⟩:=C.cells x d e;exact ⟨c,v,h1,h2,h3⟩
 ·obtain ⟨d,hd⟩:=b6.mp (YH x e);obtain ⟨c,v,h1,h2,_⟩:=C.cells x d hd;exact ⟨c,_,h1,h2⟩
 ·obtain ⟨d,h1,h2⟩:=C.keys p hp;obtain ⟨c,v,h3,_,_,h4⟩:=C.cells _ d h1;rw [h2] at h3;cases h3;exact h4.2
 ·obtain ⟨d,h1,_⟩:=C.keys (x,c) (al e);exact S1 x (by rw [h1];rfl)
end
noncomputable def sK (l:List Int) (m L R:Nat):Int:=na ((l.drop L).take (R-L)) (2 ^ m)
theorem HP:∀ {l:List Int} {m L:Nat} {d:Int} (h:l[L]? =some d),sK l m L (L+1)=d:=by iterate 5 unfold sK;have hL:=(aj.mp h).1;rw [fY hL,show L+1-L=1 by omega];have:=(aj.mp h).2;rw [dh,List.take_zero];show l[L]+2 ^ m * 0=d;rw [this];simp
theorem B7:∀ {b:Int},∀ (xs ys:List Int),na (xs++ys) b=na xs b+b ^ xs.length * na ys b:=by iterate 1 intro xs;induction xs with | nil=>intro ys;(dsimp only [na];simp) | cons x xs Qj=>intro ys;rw [bc];dsimp only [na];simp only [Qj ys,aI];rw [jQ,Int.pow_succ,eQ (b ^ xs.length) b,<-nF,kG]
theorem BM:∀ {l:List Int} {m L M R:Nat} (h1:L<=M) (h2:M<=R) (h3:R<=l.length),sK l m L R=sK l m M R * 2 ^ (m * (M-L))+sK l m L M:=by iterate 8
 unfold sK;have:(l.drop L).take (R-L)=(l.drop L).take (M-L)++(l.drop M).take (R-M):=by
  have e1:R-L=(M-L)+(R-M):=by omega
  rw [e1,List.take_add,mY,show L+(M-L)=M by omega]
 rw [this,B7];have hl:((l.drop L).take (M-L)).length=M-L:=by simp;omega
 rw [hl,<-Int.pow_mul,lh,eQ]
theorem EF:∀ {m:Nat},∀ {l:List Int},(∀ d∈l,0<=d/\d<2 ^ m)->0<=na l (2 ^ m)/\na l (2 ^ m)<2 ^ (m * l.length):=by iterate 1
 intro l;induction l with
 | nil=>intro _;(dsimp only [na];simp)
 | cons d l Qj=>
  intro h;have h1:=h d (by simp);have h2:=Qj fun x hx=>h x (by simp [hx]);(dsimp only [na];simp only [aI]);have hp:(0:Int)<2 ^ m:=lO (by decide);have h3:=ir (jc hp) h2.1;refine ⟨by omega,?_⟩;have h4:na l (2 ^ m)+1<=2 ^ (m * l.length):=h2.2;have h5:=Int.mul_le_mul_of_nonneg_left h4 (jc hp);have h6:(2:Int) ^ (m * (l.length+1))=2 ^ m * 2 ^ (m * l.length):=by rw [jP,Nat.mul_one,Int.pow_add,eQ]
  rw [h6];rw [jQ] at h5;omega
theorem Bo:∀ {l:List Int} {m L R:Nat} (h:∀ d∈l,0<=d/\d<2 ^ m) (hR:R<=l.length) (QS:l.length * m<=60),0<=sK l m L R/\sK l m L R<2 ^ 60:=by iterate 7
 unfold sK;have:=EF (m:=m) (l:=(l.drop L).take (R-L)) fun d hd=>h d (eZ (cZ hd));refine ⟨this.1,Int.lt_of_lt_of_le this.2 ?_⟩;have hle:m * ((l.drop L).take (R-L)).length<=60:=by
  have:((l.drop L).take (R-L)).length<=l.length:=by rw [gK,ja];exact bw (Nat.min_le_right _ _) (Nat.sub_le _ _)
  calc m * _<=m * l.length:=Nat.mul_le_mul_left _ this
   _=l.length * m:=bE _ _
   _<=60:=QS
 exact_mod_cast a8 (by decide) hle
theorem By:∀ {xs:List D},∀ {l:List Int},sQ xs=some l->xs=l.map .int:=by iterate 1 induction xs with | nil=>intro l h;cases h;rfl | cons x xs ih=>intro l h;obtain ⟨i,h1,l',h2,h3⟩:=qI h;cases h3;rw [be h1,ih h2];rfl
noncomputable def qP:aX:=(.mk .function [("L",.local),("R",.local),("mid",.local),("shift",.local),("digits",.free),("inner",.free),("n",.free)] false false [])
noncomputable def IO:dD:=(.mk [] [(.mk "L" none ⟨90,14,90,15⟩),(.mk "R" none ⟨90,17,90,18⟩)] none [] [] none [])
noncomputable def MU:Expr:=(.Compare (.BinOp (.Name "L" ⟨91,11,91,12⟩) .Add (.Constant (.int 1) 0 ⟨91,15,91,16⟩) ⟨91,11,91,16⟩) [.Eq] [(.Name "R" ⟨91,20,91,21⟩)] ⟨91,11,91,21⟩)
noncomputable def LY:Expr:=(.Subscript (.Name "digits" ⟨92,19,92,25⟩) (.Name "L" ⟨92,26,92,27⟩) ⟨92,19,92,28⟩)
noncomputable def Ms:Expr:=(.BinOp (.BinOp (.Name "L" ⟨93,14,93,15⟩) .Add (.Name "R" ⟨93,18,93,19⟩) ⟨93,14,93,19⟩) .RShift (.Constant (.int 1) 0 ⟨93,23,93,24⟩) ⟨93,14,93,24⟩)
noncomputable def Ld:Expr:=(.BinOp (.BinOp (.Name "mid" ⟨94,17,94,20⟩) .Sub (.Name "L" ⟨94,23,94,24⟩) ⟨94,17,94,24⟩) .Mult (.Name "n" ⟨94,28,94,29⟩) ⟨94,16,94,29⟩)
noncomputable def Ke:List Expr:=[(.Name "mid" ⟨95,22,95,25⟩),(.Name "R" ⟨95,27,95,28⟩)]
noncomputable def J5:List Expr:=[(.Name "L" ⟨95,48,95,49⟩),(.Name "mid" ⟨95,51,95,54⟩)]
noncomputable def Gn:List Stmt:=[(.If MU [(.Return (some LY) ⟨92,12,92,28⟩)] [] ⟨91,8,92,28⟩),(.Assign [(.Name "mid" ⟨93,8,93,11⟩)] Ms ⟨93,8,93,24⟩),(.Assign [(.Name "shift" ⟨94,8,94,13⟩)] Ld ⟨94,8,94,29⟩),
 (.Return (some (.BinOp (.BinOp (.Call (.Name "inner" ⟨95,16,95,21⟩) Ke [] ⟨95,16,95,29⟩) .LShift (.Name "shift" ⟨95,33,95,38⟩) ⟨95,16,95,38⟩) .Add (.Call (.Name "inner" ⟨95,42,95,47⟩) J5 [] ⟨95,42,95,55⟩) ⟨95,15,95,55⟩)) ⟨95,8,95,55⟩)]
noncomputable def rU (l:List Int) (m:Nat) (f:Addr):Qm:=[("n",.int m),("inner",.raw f),("digits",.lst (l.map .int))]
theorem Iu:∀ {a b:Int} (h:(lw b ||lw a)=true),binop .Mult (.int a) (.int b)=some (.int (a * b)):=by iterate 3 show (if (lw b ||lw a)=true then some (D.int (a * b)) else none)=_;exact if_pos h
theorem Iq:∀ {a b:Int} (h0:0<=b) (h1:b<=1000000) (h2:lw a=true),binop .LShift (.int a) (.int b)=some (.int (a * 2 ^ b.toNat)):=by iterate 5 show (if 0<=b/\b<=1000000/\lw a=true then some (D.int (a * 2 ^ b.toNat)) else none)=_;exact if_pos ⟨h0,h1,h2⟩
theorem Ih:∀ {a b:Int} (h0:0<=b),binop .RShift (.int a) (.int b)=some (.int (aL a (2 ^ b.toNat))):=by iterate 3 show (if 0<=b then some (D.int (aL a (2 ^ b.toNat))) else none)=_;exact if_pos h0
theorem Hz:∀ {a b:Int} (h0:b≠0) (h:lw b=true),binop .FloorDiv (.int a) (.int b)=some (.int (aL a b)):=by iterate 4 show (if b≠0/\lw b=true then some (D.int (aL a b)) else none)=_;exact if_pos ⟨h0,h⟩
section
variable {J:Cx} {A:bf} {W W0 W':Wd} {s s0 s1 s':ah} {X:List Addr} {sc:aX} {st:St} {env:Env}
variable {q:Str} {params:dD} {body:List Stmt} {f c':Addr} {doc pm QR:ag} {cl:List (Str×Addr)} {up:Qm}
theorem vo:∀ {sc':aX} {p pos:Pos} {args:List Expr} {ds:List D} {g1:G} {P:ag->Wd->ah->Prop} (Qr:Ok J 9) (er:Ql J W s.heap sc st env []) (hw:Qn J W s) (C:S3 J sc' q params body f c' doc pm QR cl up W s) (hv:varD sc st "inner" =some (.raw f)) (he:ceEs P0 9 sc st args W.H=some (ds,g1)) (hA:Qs 9 A) (Vo:∀ W1 s1 vs,Qk J [] W s W1 s1->W1.H=g1->Qo J W1.F W1.as ds vs->Ex J A (call (.ref f) vs) X W1 s1 P),Ex J A (eval (.Call (.Name "inner" p) args [] pos) env) X W s P:=by iterate 15
 obtain ⟨v,Se,r1⟩:=er.vars "inner" _ hv;dsimp only [Rd] at r1;subst r1;obtain ⟨e1,e2,e3⟩:=Qr.es (pos:=pos) he rfl hw er hA;refine bH (bq (db Se er.kind (by decide) ?_) (by decide));refine c9 (P:=eH f) (by rw [e1];rfl) (fun h=>cX h) (pz e1 (Ex.into e3 fun vs W1 s1 k1 y0=>?_));obtain ⟨Q5,rv⟩:=y0;refine ⟨?_,?_⟩
 ·exact ⟨_,_,_,_,(C.step k1 trivial).hF⟩
 ·exact Ex.into (Vo W1 s1 vs k1 Q5 rv) fun v W2 s2 k2 r2=>⟨W2,k1.Sr k2,r2⟩
noncomputable def O1 (J:Cx) (q:Str) (f c':Addr) (doc pm QR:ag) (cl:List (Str×Addr)) (l:List Int) (m j:Nat):Prop:=∀ {A:bf} {W:Wd} {s:ah} {L R:Nat} {tL tR:Tok},
  S3 J qP q IO Gn f c' doc pm QR cl (rU l m f) W s->Qn J W s->L<R->R<=l.length->R-L<=2 ^ j->Qs (j+10) A->Ex J A (call (.ref f) [.int L tL,.int R tR]) [] W s (li J (.int (sK l m L R)) W.H)
theorem Az:∀ {l:List Int} {m:Nat} (fx:Fx J) (Qr:Ok J 9) (hb:∀ d∈l,0<=d/\d<2 ^ m) (QS:l.length * m<=60) (hlen:l.length<=lim) (j:Nat) (ih:∀ j',j=j'+1->O1 J q f c' doc pm QR cl l m j'),O1 J q f c' doc pm QR cl l m j:=by iterate 9
 intro A W s L R tL tR C hw hLR hR hj hA;refine C.enter fx (ps:=["L","R"]) (ds:=[.int L,.int R]) (by rfl') (by decide) (by decide) (by decide) rfl rfl rfl ?_ ?_ (by dsimp only [Qo,Rd];exact ⟨_,_,rfl,⟨tL,rfl⟩,_,_,rfl,⟨tR,rfl⟩,rfl⟩) hw (by have:=hA.2.1;omega) fun env Qg _ F C1=>?_
 ·intro x hx;have:=al hx;simp [qP] at this;rcases this with rfl | rfl | rfl<;>rfl'
 ·intro x hx;obtain ⟨d,hd⟩:=b6.mp hx;have:=al hd;simp [rU] at this;rcases this with ⟨rfl,_⟩ | ⟨rfl,_⟩ | ⟨rfl,_⟩<;>rfl'
 have QY:Qs (j+9) (A.deeper env):=hA.deeper;have TM:Qs 9 (A.deeper env):=QY.le (by omega);unfold Gn;have ht:ceT P0 9 qP ⟨[("L",.int L),("R",.int R)],rU l m f,none⟩ MU W.H=some (((L:Int)+1==(R:Int)),W.H):=by rfl'
 refine ao (fC (Ex.into (Qr.t ht rfl F.tr.ok F.er TM) fun b W2 s2 k2 z1=>?_));obtain ⟨hbb,RW⟩:=z1;subst hbb;have F2:=F.expr k2;have C2:=C1.step k2 trivial;by_cases WV:L+1=R
 ·subst WV;have hbt:((L:Int)+1==((L+1:Nat):Int))=true:=by simp
  rw [hbt,if_pos rfl];obtain ⟨d,hd⟩:∃ d,l[L]? =some d:=⟨_,au (by omega)⟩
  have hg:ceE P0 9 qP ⟨[("L",.int L),("R",.int (L+1:Nat))],rU l m f,none⟩ LY W2.H=some (.int d,W2.H):=by
   have h1:ceE P0 9 qP ⟨[("L",.int L),("R",.int (L+1:Nat))],rU l m f,none⟩ LY W2.H=(subD P0 (.lst (l.map .int)) (.int L)).bind fun d=>some (d,W2.H):=by rfl'
   rw [h1];show ((qq (.int (L:Int))).bind fun k=>(l.map D.int)[k]?).bind _=_;have hL:qq (.int (L:Int))=some L:=by show (if (0:Int)<=(L:Int) then some (Int.toNat (L:Int)) else none)=_;exact if_pos (az L)
   rw [hL];show ((l.map D.int)[L]?).bind _=_;rw [b8,hd];rfl
  refine ao (cm (Ex.into (Qr.e hg rfl F2.tr.ok F2.er TM) fun v W3 s3 k3 z2=>?_));obtain ⟨Sf,rv⟩:=z2;refine ⟨W3,F2.tr.Qi k3,Sf.trans RW,?_⟩;rw [HP hd];exact rv
 ·have hbf:((L:Int)+1==(R:Int))=false:=by
   simp only [beq_eq_false_iff_ne];omega
  rw [hbf,if_neg aJ];refine aW ?_
  -- mid
  have TQ:ceE P0 9 qP ⟨[("L",.int L),("R",.int R)],rU l m f,none⟩ Ms W2.H=some (.int ((L+R) / 2:Nat),W2.H):=by
   have h1:ceE P0 9 qP ⟨[("L",.int L),("R",.int R)],rU l m f,none⟩ Ms W2.H=some (.int (aL ((L:Int)+(R:Int)) (2 ^ (1:Int).toNat)),W2.H):=by rfl'
   rw [h1,<-fy,aV _ (by decide)];rfl
  refine ao (bj (Ex.into (Qr.e TQ rfl F2.tr.ok F2.er TM) fun v W3 s3 k3 z3=>?_) rfl);obtain ⟨Sf,rv⟩:=z3;have F3:=F2.expr k3;refine af (F3.store (x:="mid") (d:= .int ((L+R) / 2:Nat)) (by decide) rfl rv) (fun _ s4 F4=>?_) fun _ _ f=>f;generalize hM:(L+R) / 2=M at F4 rv;have YW:L<M:=by omega
  have YU:M<R:=by omega
  -- shift
  have WQ:ceE P0 9 qP ((⟨[("L",.int L),("R",.int R)],rU l m f,none⟩:St).withRho [("mid",.int M),("L",.int L),("R",.int R)]) Ld W3.H=some (.int ((M-L) * m:Nat),W3.H):=by
   have h1:ceE P0 9 qP ((⟨[("L",.int L),("R",.int R)],rU l m f,none⟩:St).withRho [("mid",.int M),("L",.int L),("R",.int R)]) Ld W3.H=(binop .Mult (.int ((M:Int)-L)) (.int m)).bind fun d=>some (d,W3.H):=by rfl'
   rw [h1];have hs:lw ((M:Int)-L)=true:=by unfold lw;unfold lim at hlen;simp only [decide_eq_true_eq];omega
   have:((M:Int)-L) * m=(((M-L) * m:Nat):Int):=by rw [da,nE (by omega)]
   show ((if (lw (m:Int) ||lw ((M:Int)-L))=true then some (D.int (((M:Int)-L) * m)) else none):Option D).bind _=_;rw [hs,fM,if_pos rfl,this];rfl
  refine ao (bj (Ex.into (Qr.e WQ rfl F4.tr.ok F4.er TM) fun v W5 s5 k5 z4=>?_) rfl);obtain ⟨VU,Zp⟩:=z4;have F5:=F4.expr k5;refine af (F5.store (x:="shift") (d:= .int ((M-L) * m:Nat)) (by decide) rfl Zp) (fun _ s6 F6=>?_) fun _ _ f=>f;have C6:S3 J qP q IO Gn f c' doc pm QR cl (rU l m f) W5 s6:=C.step F6.tr trivial;have g6:W5.H=W.H:=VU.trans (Sf.trans RW);obtain ⟨j',rfl⟩:∃ j',j=j'+1:=by cases j with | zero=>simp at hj;omega | succ j'=>exact ⟨j',rfl⟩
  have hp:2 ^ (j'+1)=2 * 2 ^ j':=by rw [fQ,bE]
  have Vt:Qs (j'+10) (A.deeper env):=QY.le (by omega);have e1:ceEs P0 9 qP ((⟨[("L",.int L),("R",.int R)],rU l m f,none⟩:St).withRho [("shift",.int ((M-L) * m:Nat)),("mid",.int M),("L",.int L),("R",.int R)]) Ke W5.H=some ([.int M,.int R],W5.H):=by rfl'
  refine ao (cm (hH (hH (Ex.into (vo (X:=[]) (P:=li J (.int (sK l m M R)) W5.H) Qr F6.er F6.tr.ok C6 (by rfl') e1 TM fun W7 s7 vs k7 YG Zo=>?_) fun v8 W8 s8 k8 ⟨ZI,r8⟩=>?_))))
  ·obtain ⟨va,vb,rfl,ra,rb⟩:=uH Zo;obtain ⟨ta,rfl⟩:=ra;obtain ⟨tb,rfl⟩:=rb;have:=ih j' rfl (tL:=ta) (tR:=tb) (C6.step k7 trivial) k7.ok YU hR (by omega) Vt;rw [YG] at this;exact this
  ·have F8:=F6.expr k8;have C8:=C6.step k8 trivial;obtain ⟨vs,UL,rs⟩:=F8.er.vars "shift" (.int ((M-L) * m:Nat)) (by rfl');have bd:=Bo (l:=l) (m:=m) (L:=M) (R:=R) hb hR QS;have bsh:(M-L) * m<=60:=bw (fg _ (by omega)) QS;refine bq (db UL F8.er.kind (by decide) ?_) (by decide);refine Ex.into (xW (X:=[]) (op:= .LShift) (d:= .int (sK l m M R * 2 ^ ((M-L) * m))) ?_ r8 rs F8.tr.ok) fun v9 W9 s9 k9 ⟨VT,r9⟩=>?_
   ·have hsm:lw (sK l m M R)=true:=by
     unfold lw;simp only [decide_eq_true_eq];have:=bd.1;have:=bd.2;omega
    show (if (0:Int)<=(((M-L) * m:Nat):Int)/\(((M-L) * m:Nat):Int)<=1000000/\lw (sK l m M R)=true then some (D.int (sK l m M R * 2 ^ (((M-L) * m:Nat):Int).toNat)) else none)=_;rw [if_pos ⟨by omega,by omega,hsm⟩];rfl
   ·have F9:=F8.expr k9;have C9:=C8.step k9 trivial;have g9:W9.H=W5.H:=VT.trans ZI;have e2:ceEs P0 9 qP ((⟨[("L",.int L),("R",.int R)],rU l m f,none⟩:St).withRho [("shift",.int ((M-L) * m:Nat)),("mid",.int M),("L",.int L),("R",.int R)]) J5 W9.H=some ([.int L,.int M],W9.H):=by rfl'
    refine Ex.into (vo (X:=[]) (P:=li J (.int (sK l m L M)) W9.H) Qr F9.er F9.tr.ok C9 (by rfl') e2 TM fun W10 s10 vs We Vj aai=>?_) fun v11 TN s11 k11 ⟨abd,r11⟩=>?_
    ·obtain ⟨va,vb,rfl,ra,rb⟩:=uH aai;obtain ⟨ta,rfl⟩:=ra;obtain ⟨tb,rfl⟩:=rb;have:=ih j' rfl (tL:=ta) (tR:=tb) (C9.step We trivial) We.ok YW (by omega) (by omega) Vt;rw [Vj] at this;exact this
    ·have V8:=F9.expr k11;refine Ex.into (xW (X:=[]) (op:= .Add) (d:= .int (sK l m L R)) ?_ (r9.mono k11.le k11.as) r11 V8.tr.ok) fun v12 V6 s12 XI ⟨Xf,r12⟩=>?_
     ·rw [BM (M:=M) (fU YW) (fU YU) hR,bE m];rfl
     ·exact ⟨V6,V8.tr.Qi XI,Xf.trans (abd.trans (g9.trans g6)),r12⟩
theorem Jc:∀ {l:List Int} {m:Nat} (fx:Fx J) (Qr:Ok J 9) (hb:∀ d∈l,0<=d/\d<2 ^ m) (QS:l.length * m<=60) (hlen:l.length<=lim) (j:Nat),O1 J q f c' doc pm QR cl l m j:=by iterate 8
 induction j with
 | zero=>exact Az fx Qr hb QS hlen 0 fun _ e=>nomatch e
 | succ j ih=>exact Az fx Qr hb QS hlen (j+1) fun _ e=>cJ e▸ih
end
noncomputable def Mq:aX:=(.mk .function [("digits",.cell),("n",.cell),("inner",.cell),("len",.globalImplicit)] false false [])
noncomputable def Vw:Fn:=⟨["digits","n"],Mq,
 [(.FunctionDef "inner" IO Gn [] none [] qP none "inner" ⟨90,4,95,55⟩),
  (.Return (some (.IfExp (.Name "digits" ⟨96,36,96,42⟩) (.Call (.Name "inner" ⟨96,11,96,16⟩) [(.Constant (.int 0) 0 ⟨96,17,96,18⟩),(.Call (.Name "len" ⟨96,20,96,23⟩) [(.Name "digits" ⟨96,24,96,30⟩)] [] ⟨96,20,96,31⟩)] [] ⟨96,11,96,32⟩) (.Constant (.int 0) 0 ⟨96,48,96,49⟩) ⟨96,11,96,49⟩)) ⟨96,4,96,49⟩)]⟩
theorem GC:o8 P0 "_digits2int" =some Vw:=by iterate 0 rfl'
section
variable {J:Cx} {A:bf} {W W0 W':Wd} {s s0 s1 s':ah} {X:List Addr} {sc VH:aX} {st:St} {env:Env}
variable {q:Str} {params:dD} {body:List Stmt} {f c':Addr} {doc pm QR:ag} {cl:List (Str×Addr)} {up:Qm}
theorem S3.of:∀ (R:Ql J W s.heap VH st env []) (hF:s.heap.get? f=some (dQ "inner" q params body sc cl doc pm c' QR)) (Z1:Apart J W s.heap f) (RC:Qv W.F (.ref c') q) (Sl:∀ p∈cl,env.cells.lookup p.1=some p.2/\cl.lookup p.1=some p.2/\(up.lookup p.1).isSome=true) (Yc:∀ x d,up.lookup x=some d->VH.names.lookup x=some .cell/\varD VH st x=some d/\∃ c,(x,c)∈cl),S3 J sc q params body f c' doc pm QR cl up W s:=by iterate 6
 have lk:∀ x c,cl.lookup x=some c->env.cells.lookup x=some c:=fun x c e=>(Sl _ (al e)).1;refine ⟨hF,Z1,RC,fun x d e=>?_,fun p hp=>?_,fun x y c h1 h2=>R.inj x y c (lk _ _ h1) (lk _ _ h2)⟩
 ·obtain ⟨h1,h2,c,h3⟩:=Yc x d e;obtain ⟨z1,z2,_⟩:=Sl _ h3;obtain ⟨v,hv,rv⟩:=R.vars x d h2;have hk:env.kindOf x=some .cell:=by
   rcases R.kd x .cell h1 with k | ⟨k,_⟩
   ·exact k
   ·cases k
  rcases hv with ⟨k,_⟩ | ⟨_,c2,h5,h6⟩
  ·rw [hk] at k;cases k
  ·rw [z1] at h5;cases h5;have z:=R.apart c (aE _ (av _ (aH.mpr ⟨_,al z1,rfl⟩)));exact ⟨c,v,z2,h6,rv,R.Vx z1 hk,z.2⟩
 ·obtain ⟨_,z2,z3⟩:=Sl p hp;obtain ⟨d,hd⟩:=b6.mp z3;exact ⟨d,hd,z2⟩
theorem yJ:∀ {T:Tj} {B:Bs} {pos:Pos} {cl:List (Str×Addr)} {Q:Flow->ah->Prop} (tx:Tx J) (hT:T∈J.tabs) (R:Run J W0 s0 B VH env st [] W s) (Rv:params.defaults=[]) (YC:params.kw_defaults=[]) (ha:annTrees params none env=[]) (Q6:env.code= .ref T.c) (Ru:pos=T.pos) (hq:nz env "inner" "inner" =T.q) (Tg:eX sc env=pure cl) (ZG:pK VH "inner" =true) (Tz:oO st "inner" =true) (hQ:∀ f c' doc pm QR W' s',Run J W0 s0 B VH env (st.withRho (("inner",.raw f)::st.ρ)) [] W' s'->W'.H=W.H->s'.heap.get? f=some (dQ "inner" T.q params body sc cl doc pm c' QR)->Apart J W' s'.heap f->Qv W'.F (.ref c') T.q->s.heap.get? f=none->Q .next s'),aD (aC P0 J.w) A (exec (.FunctionDef "inner" params body [] none [] sc none "inner" pos) env) Q (fun _ _=>False) s:=by iterate 18 refine PySem.W.nestDef_K Rv YC ha (Nj tx hT Tg R.R.glob Q6 Ru hq R.ok fun f c' doc pm QR W' s' MF=>?_);obtain ⟨t,g,nf,hf,RC,s2,t1,nf2,t2⟩:=MF;have R1:=R.expr t;have n2:=t1.ok.QL nf2;have ff:f∉am env:=fun hm=>R.QW nf (aE _ hm);refine af (R1.store (x:="inner") (v:= .ref f) (d:= .raw f) ZG Tz (by dsimp only [Rd])) (fun _ s3 z0=>?_) fun _ _ f=>f;obtain ⟨k,R3⟩:=z0;rw [hq] at hf RC;have hf3:=xQ k n2 ff hf;exact hQ f c' doc pm QR W' s3 R3 g hf3 ⟨n2.1,n2.2.1,n2.2.2,_,hf3⟩ RC nf
end
section
variable {J:Cx} {A:bf} {W W0 W':Wd} {s s0 s1 s':ah} {X:List Addr} {sc VH:aX} {st:St} {env:Env}
theorem wR:∀ {x:Str} {d:D} (R:Ql J W s.heap sc st env []) (h1:sc.names.lookup x=some .cell) (h2:varD sc st x=some d),∃ c,env.cells.lookup x=some c:=by iterate 5
 obtain ⟨v,hv,_⟩:=R.vars x d h2;rcases hv with ⟨k,_⟩ | ⟨_,c,h5,_⟩
 ·rcases R.kd x .cell h1 with q | ⟨q,_⟩
  ·rw [q] at k;cases k
  ·cases q
 ·exact ⟨c,h5⟩
theorem xO:∀ {fd:eO} {L a:Addr} {f:Str} (R:Ql J W s.heap sc st env []) (h1:sc.names.lookup ("inner" :Str)=some fV) (he:env=fc fd L a) (hq:fd.qualname=f),nz env "inner" "inner" =f++".<locals>." ++"inner" :=by iterate 8
 unfold nz;rcases R.kd "inner" .cell h1 with q | ⟨q,_⟩
 ·rw [q,if_neg (by decide),he,<-hq];rfl
 ·cases q
theorem L3:∀ {x:Str} {p1 p2 pos:Pos} {xs:List D} (fx:Fx J) (R:Ql J W s.heap sc st env []) (hw:Qn J W s) (hg:pZ sc "len" =true) (hx:mt x=true) (hv:varD sc st x=some (.lst xs)),Ex J A (eval (.Call (.Name "len" p1) [(.Name x p2)] [] pos) env) [] W s (li J (.int xs.length) W.H):=by iterate 11 obtain ⟨v,Se,r1⟩:=R.vars x _ hv;have cf:=px fx (f:="len") (by decide);refine bH (bk R.kind (R.global hg) (cf.1.load R hw ?_) (by decide));refine pa (first:=[]) cf (by rfl) ?_;refine aR (bq (db Se R.kind hx ?_) (oJ hx).1) rfl;refine aZ ⟨hw.Qw,?_⟩;exact yC (ds:=[.lst xs]) rfl (Qo.one r1) hw
theorem D1:∀ {x:Str} {p:Pos} {xs:List D} {Q:Bool->ah->Prop} (R:Ql J W s.heap sc st env []) (hw:Qn J W s) (hx:mt x=true) (hv:varD sc st x=some (.lst xs)) (hq:∀ tk,Q (!xs.isEmpty) {s with toks:=tk}),aD (aC P0 J.w) A (jT (.Name x p) env (eval (.Name x p) env)) Q (fun _ _=>False) s:=by iterate 9
 obtain ⟨v,Se,r1⟩:=R.vars x _ hv;obtain ⟨hl,a1,ws,n1,s1,rfl,e1,r⟩:=io r1;refine dP (bq (db Se R.kind hx ?_) (oJ hx).1) rfl;have l1:=r.length;refine nq (items:=ws.toArray) ⟨_,hw.sub _ _ e1,rfl,n1,rfl⟩ ?_ ?_
 ·unfold lim at hl;simp only [a7];omega
 ·have:ws.toArray.isEmpty=xs.isEmpty:=by cases ws<;>cases xs<;>simp at l1 ⊢
  rw [this];exact hq _
theorem Eh:∀ {ds:List D} {g g':G} {d:D} (fx:Fx J) (tx:Tx J) (Qr:Ok J 9) (tf:xL J "_digits2int" "_digits2int.<locals>.inner" ⟨90,4,95,55⟩) (h:qM ds g=some (d,g')),∃ fv,pN J "_digits2int" fv/\∀ {A W s vs},Qs 30 A->W.H=g->Qo J W.F W.as ds vs->Qn J W s->Ex J A (call fv vs) [] W s (li J d g'):=by iterate 9
 obtain ⟨T,hT,YS,YT,mg,mb,a,o,fd,Ux,Yu,Yv,hF,Wo,Q6,XM,Qz⟩:=tf;have Qz:=Qz _ GC;refine ⟨.ref a,ud Ux Yu Yv Qz,fun {A W s vs} hA hg hd hw=>?_⟩;replace h:=zW h;obtain ⟨⟨d0,d1⟩,h1,xs,h2,m,h3,l,hl,h⟩:=h;cases rm h1;cases ph h2;cases be h3;split at h;rotate_left
 ·cases h
 rename_i hc;cases h;obtain ⟨hm,hlm,Qy⟩:=hc;obtain ⟨m,rfl⟩:=eE (show 0<=m by omega);rw [aP] at *;have hxs:=By hl;subst hxs;have hb:∀ d∈l,0<=d/\d<2 ^ m:=fun d hd=>by simpa using ak.mp Qy d hd
 have aaZ:l.length<=60:=bw (gG _ (by omega)) hlm;have hlen:l.length<=lim:=by unfold lim;omega
 refine eV (vd (ds:=[.lst (l.map .int),.int m]) fx Qz rfl (by have:=hA.2.1;omega) hd hw fun env Qg R z0=>?_);obtain ⟨o',fd',Wt,TF,Tf⟩:=z0;rw [hF] at Wt;cases Wt;rw [Wo] at TF;cases TF;have QY:Qs 29 (A.deeper env):=hA.deeper;show aD _ _ (gg Vw.body env) _ _ _;unfold Vw;obtain ⟨cd,RC⟩:=wR R.R (x:="digits") (d:= .lst (l.map .int)) (by rfl') (by rfl');obtain ⟨cn,Ws⟩:=wR R.R (x:="n") (d:= .int m) (by rfl') (by rfl');obtain ⟨ci,vi,VD,_⟩:=R.R.cells "inner" (by rfl');have Tg:eX qP env=pure [(("n" :Str),cn),("inner",ci),("digits",cd)]:=by
  have:=sL (scope:=qP) (env:=env) fun y hy=>by
   simp [qP] at hy;rcases hy with rfl | rfl | rfl
   ·exact ⟨_,RC⟩
   ·exact ⟨_,VD⟩
   ·exact ⟨_,Ws⟩
  rw [this];congr 1;show [(("n" :Str),(env.cells.lookup ("n" :Str)).getD 0),("inner",(env.cells.lookup ("inner" :Str)).getD 0),("digits",(env.cells.lookup ("digits" :Str)).getD 0)]=_;rw [Ws,VD,RC];rfl
 refine ao (yJ tx hT R rfl rfl (by rfl') (by rw [Tf];exact Q6) YT.symm (by rw [xO R.R (by rfl') Tf XM,YS];rfl') Tg (by rfl') rfl fun f c' doc pm QR W6 s6 R6 g6 hf6 ap6 Xl _=>?_);have C6:S3 J qP T.q IO Gn f c' doc pm QR [(("n" :Str),cn),("inner",ci),("digits",cd)] (rU l m f) W6 s6:=by
  refine S3.of R6.R hf6 ap6 Xl (fun p hp=>?_) (fun x d e=>?_)
  ·simp only [aq,aO,or_false] at hp;rcases hp with rfl | rfl | rfl
   ·exact ⟨Ws,by rfl',by rfl'⟩
   ·exact ⟨VD,by rfl',by rfl'⟩
   ·exact ⟨RC,by rfl',by rfl'⟩
  ·have z:=al e;simp only [rU,aq,aO,or_false,cR] at z;rcases z with ⟨rfl,rfl⟩ | ⟨rfl,rfl⟩ | ⟨rfl,rfl⟩
   ·exact ⟨by rfl',by rfl',cn,by simp⟩
   ·exact ⟨by rfl',by rfl',ci,by simp⟩
   ·exact ⟨by rfl',by rfl',cd,by simp⟩
 refine ao (cm (wpAny_IfExp (D1 (xs:=l.map .int) R6.R R6.ok (by decide) (by rfl') fun tk=>?_)));have k7:=Qk.toks (X:=[]) (tk:=tk) R6.ok;have R7:=R6.expr k7;subst hg;have g7:W6.H=W.H:=g6;cases l with
 | nil=>rw [if_neg (by simp)];refine bO ?_;exact ⟨W6,R6.tr.Qi (Qk.toks R6.ok),g7,by dsimp only [Rd];exact ⟨_,rfl⟩⟩
 | cons d0 l0=>
  rw [if_pos (by simp)];obtain ⟨v,Se,r1⟩:=R7.R.vars "inner" (.raw f) (by rfl');dsimp only [Rd] at r1;subst r1;have C7:=C6.step k7 trivial;refine bH (bq (db Se R7.R.kind (by decide) ?_) (by decide));refine c9 (P:=eH f) rfl (fun h=>cX h) (pz rfl ?_);refine aR (bO ?_) rfl;have k8:Qk J [] W6 {s6 with toks:=tk} W6 {s6 with toks:=tk+1}:=Qk.toks R7.ok;have R8:=R7.expr k8;refine aR (Ex.into (L3 fx (xs:=(d0::l0).map .int) R8.R R8.ok (by rfl') (by decide) (by rfl')) fun vl W9 s9 k9 z1=>?_) rfl;obtain ⟨VT,rl⟩:=z1;dsimp only [Rd] at rl;obtain ⟨tl,rfl⟩:=rl;have C9:=(C7.step k8 trivial).step k9 trivial;refine aZ ⟨⟨_,_,_,_,C9.hF⟩,?_⟩;have R9:=R8.expr k9;have:=Jc fx Qr hb hlm hlen 6 (L:=0) (R:=(d0::l0).length) (tL:=tk) (tR:=tl) C9 R9.ok (by simp) (bN _) (by omega) (QY.le (by omega));have Yw:((nh D.int (d0::l0)).length:Int)=(((d0::l0).length:Nat):Int):=by simp
  rw [Yw];refine Ex.into this fun v W10 s10 We y0=>?_;obtain ⟨Vj,r10⟩:=y0;refine ⟨W10,R9.tr.Qi We,Vj.trans (VT.trans g7),?_⟩;have hdv:sK (d0::l0) m 0 (d0::l0).length=na (d0::l0) (2 ^ m):=by unfold sK;simp
  rw [<-hdv];exact r10
end
set_option maxRecDepth 100000
section
variable {J:Cx} {A:bf} {W W0 W':Wd} {s s0 s1 s':ah} {X:List Addr} {sc VH:aX} {st:St} {env:Env}
theorem P4:∀ {x:Int} (h0:0<=x) (h:x<=1000),¬(!Builtin.List.listFitsIndex x)=true:=by iterate 3 simp [oG];omega
theorem PU:∀ {items:Array ag} {x:Int} (h:items.size * x.toNat<=1000),¬items.size * x.toNat > (2 ^ 63-1) / 8:=by iterate 3 omega
theorem PR:∀ {items:Array ag} {x:Int} (h:items.size * x.toNat<=1000),¬cT (items.size * x.toNat)=true:=by iterate 3 simp [cT,dw];omega
theorem Hn:∀ {l:Addr} {items:Array ag} {k:Nat} {x:Int} {u:Tok} {Q:ag->ah->Prop} {E:ag->ah->Prop} (hl:s.heap.get? l=some {cls:= .type "list",dict:=none,data:= .seq items k,slots:=#[]}) (h0:0<=x) (hx:x<=1000) (Rm:items.size * x.toNat<=1000) (h:Q (.ref s.heap.objs.size) {s with heap:=s.heap.push {cls:= .type "list",data:= .seq (List.foldl (fun x1 x2=>x1++x2) #[] (d6 (if items.isEmpty=true then 0 else x.toNat) items))}}),aD (aC P0 J.w) A (binaryOp .Mult (.ref l) (.int x u)) Q E s:=by iterate 12
 exact (wpAny_binaryOp_repeat_ref (T:="list") (U:="int") (by decide) ⟨_,hl,rfl⟩ (fun s'=>typeIs_int s' x u) noFill_list_mul F.fills_int_mul nG repeat_list F.slot_int_index.lookup
  (iC nG (typeIs_int s x u) F.entry_int_rmul (F.args_int_rmul_2 _ _) (int___rmul___int_list x u l items k)
   ⟨hl,rfl,⟨_,hl,rfl⟩,iC F.slot_list_mul ⟨_,hl,rfl⟩ F.entry_list_mul (F.args_list_mul_2 _ _) (AutoListH.list___mul___list_int_3 l items k x u (P4 h0 hx) (PU Rm) (PR Rm)) ⟨hl,h⟩⟩))
end
theorem zC:∀ {b:Nat},∀ (k a i:Nat),i<k->(pB k b a)[i]? =some ((a / b ^ i % b:Nat):Int):=by iterate 1
 intro k;induction k with
 | zero=>exact fun _ _ h=>absurd h (mV _)
 | succ k Qj=>intro a i h;cases i with | zero=>dsimp only [pB];simp | succ i=>dsimp only [pB];simp only [cL];rw [Qj (a / b) i (by omega),kJ,fQ,bE b]
theorem sX:∀ {b:Nat},∀ (k a:Nat),(pB k b a).length=k:=by iterate 1 intro k;induction k with | zero=>intro _;exact rfl | succ k Qj=>intro a;(dsimp only [pB];simp [Qj])
theorem Iw:∀ (x k:Nat),Builtin.bitXor (x:Int) ((x / 2 ^ k * 2 ^ k:Nat):Int)=((x % 2 ^ k:Nat):Int):=by iterate 2
 rw [bitXor_and];have h1:ju (x:Int) ((x / 2 ^ k * 2 ^ k:Nat):Int)=((x / 2 ^ k * 2 ^ k:Nat):Int):=by
  unfold ju;rw [decide_eq_true (az _),decide_eq_true (az _)];dsimp only;rw [aP,aP];congr 1;apply Nat.eq_of_testBit_eq;intro i;rw [Nat.testBit_and];have:x / 2 ^ k * 2 ^ k=(x >>> k)<<<k:=by rw [Nat.shiftLeft_eq,Nat.shiftRight_eq_div_pow]
  rw [this,Nat.testBit_shiftLeft,Nat.testBit_shiftRight];by_cases h:k<=i
  ·simp [h,iA h]
  ·simp [h]
 rw [h1];have:=eB x (2 ^ k);rw [bE] at this;omega
theorem Jl:∀ {x m i K:Nat} (h:i<K),x % 2 ^ (K * m) / 2 ^ (m * i) % 2 ^ m=x / 2 ^ (m * i) % 2 ^ m:=by iterate 5
 have e:2 ^ (K * m)=2 ^ (m * i) * 2 ^ (m * (K-i)):=by rw [<-lK,<-jP,iA (fU h),bE]
 rw [e,Nat.mod_mul_right_div_self];have:2 ^ m ∣ 2 ^ (m * (K-i)):=Nat.pow_dvd_pow 2 (gG _ (by omega));rw [Nat.mod_mod_of_dvd _ this]
theorem Gs:∀ {x m i K:Nat} (h:K<=i),x / 2 ^ (K * m) / 2 ^ (m * (i-K)) % 2 ^ m=x / 2 ^ (m * i) % 2 ^ m:=by iterate 5 rw [kJ,<-lK];congr 3;rw [bE K m,<-jP,iA h]
noncomputable def qf:aX:=(.mk .function [("x",.local),("L",.local),("R",.local),("mid",.local),("shift",.local),("upper",.local),("lower",.local),("a_digits",.free),("inner",.free),("n",.free)] false false [])
noncomputable def Ib:dD:=(.mk [] [(.mk "x" none ⟨75,14,75,15⟩),(.mk "L" none ⟨75,17,75,18⟩),(.mk "R" none ⟨75,20,75,21⟩)] none [] [] none [])
noncomputable def NF:Expr:=(.Compare (.BinOp (.Name "L" ⟨76,11,76,12⟩) .Add (.Constant (.int 1) 0 ⟨76,15,76,16⟩) ⟨76,11,76,16⟩) [.Eq] [(.Name "R" ⟨76,20,76,21⟩)] ⟨76,11,76,21⟩)
noncomputable def Lp:Expr:=(.BinOp (.BinOp (.Name "L" ⟨79,14,79,15⟩) .Add (.Name "R" ⟨79,18,79,19⟩) ⟨79,14,79,19⟩) .RShift (.Constant (.int 1) 0 ⟨79,23,79,24⟩) ⟨79,14,79,24⟩)
noncomputable def K9:Expr:=(.BinOp (.BinOp (.Name "mid" ⟨80,17,80,20⟩) .Sub (.Name "L" ⟨80,23,80,24⟩) ⟨80,17,80,24⟩) .Mult (.Name "n" ⟨80,28,80,29⟩) ⟨80,16,80,29⟩)
noncomputable def Lv:Expr:=(.BinOp (.Name "x" ⟨81,16,81,17⟩) .RShift (.Name "shift" ⟨81,21,81,26⟩) ⟨81,16,81,26⟩)
noncomputable def LS:Expr:=(.BinOp (.Name "upper" ⟨82,20,82,25⟩) .LShift (.Name "shift" ⟨82,29,82,34⟩) ⟨82,20,82,34⟩)
noncomputable def J0:List Expr:=[(.Name "lower" ⟨83,14,83,19⟩),(.Name "L" ⟨83,21,83,22⟩),(.Name "mid" ⟨83,24,83,27⟩)]
noncomputable def J9:List Expr:=[(.Name "upper" ⟨84,14,84,19⟩),(.Name "mid" ⟨84,21,84,24⟩),(.Name "R" ⟨84,26,84,27⟩)]
noncomputable def HQ:List Stmt:=[(.If NF [(.Assign [(.Subscript (.Name "a_digits" ⟨77,12,77,20⟩) (.Name "L" ⟨77,21,77,22⟩) ⟨77,12,77,23⟩)] (.Name "x" ⟨77,26,77,27⟩) ⟨77,12,77,27⟩),(.Return none ⟨78,12,78,18⟩)] [] ⟨76,8,78,18⟩),
 (.Assign [(.Name "mid" ⟨79,8,79,11⟩)] Lp ⟨79,8,79,24⟩),(.Assign [(.Name "shift" ⟨80,8,80,13⟩)] K9 ⟨80,8,80,29⟩),(.Assign [(.Name "upper" ⟨81,8,81,13⟩)] Lv ⟨81,8,81,26⟩),
 (.Assign [(.Name "lower" ⟨82,8,82,13⟩)] (.BinOp (.Name "x" ⟨82,16,82,17⟩) .BitXor LS ⟨82,16,82,34⟩) ⟨82,8,82,34⟩),
 (.Expr (.Call (.Name "inner" ⟨83,8,83,13⟩) J0 [] ⟨83,8,83,28⟩) ⟨83,8,83,28⟩),(.Expr (.Call (.Name "inner" ⟨84,8,84,13⟩) J9 [] ⟨84,8,84,28⟩) ⟨84,8,84,28⟩)]
noncomputable def rg (m:Nat) (f p:Addr):Qm:=[("n",.int m),("inner",.raw f),("a_digits",.raw p)]
structure Seg (m:Nat) (vs SP:Array ag) (L R x:Nat):Prop where
 size:SP.size=vs.size
 out:∀ i,i<L\/R<=i->SP[i]? =vs[i]?
 at_:∀ i,L<=i->i<R->∃ t,SP[i]? =some (.int ((x / 2 ^ (m * (i-L)) % 2 ^ m:Nat):Int) t)
theorem Seg.one:∀ {m:Nat} {vs:Array ag} {L x:Nat} {t:Tok} (hL:L<vs.size) (hx:x<2 ^ m),Seg m vs (vs.setIfInBounds L (.int (x:Int) t)) L (L+1) x:=by iterate 7
 exact {
  size:=by simp
  out i h:=by rw [jd,if_neg (by omega)]
  at_ i h1 h2:=by
   obtain rfl:i=L:=by omega
   refine ⟨t,?_⟩;rw [jd,if_pos rfl,if_pos hL];simp [gM hx]}
theorem Seg.join:∀ {m:Nat} {vs Zj Zi:Array ag} {L M R x:Nat} (h1:Seg m vs Zj L M (x % 2 ^ ((M-L) * m))) (h2:Seg m Zj Zi M R (x / 2 ^ ((M-L) * m))) (YW:L<=M) (YU:M<=R),Seg m vs Zi L R x:=by iterate 12
 exact {
  size:=h2.size.trans h1.size
  out i h:=by rw [h2.out i (by omega),h1.out i (by omega)]
  at_ i hl hr:=by
   by_cases hm:i<M
   ·rw [h2.out i (by omega)];obtain ⟨t,e⟩:=h1.at_ i hl hm;rw [Jl (by omega)] at e;exact ⟨t,e⟩
   ·obtain ⟨t,e⟩:=h2.at_ i (by omega) hr;refine ⟨t,?_⟩;have z:=Gs (x:=x) (m:=m) (i:=i-L) (K:=M-L) (by omega);rw [show i-L-(M-L)=i-M by omega] at z;rw [z] at e;exact e}
section
variable {J:Cx} {A:bf} {W W0 W':Wd} {s s0 s1 s':ah} {X:List Addr} {sc:aX} {st:St} {env:Env}
variable {q:Str} {params:dD} {body:List Stmt} {f c':Addr} {doc pm QR:ag} {cl:List (Str×Addr)} {up:Qm}
theorem Bd:∀ {F:PM} {as:List Addr} {a b c:D} {vs:List ag} (h:Qo J F as [a,b,c] vs),∃ x y z,vs=[x,y,z]/\Rd J F as a x/\Rd J F as b y/\Rd J F as c z:=by iterate 7 dsimp only [Qo] at h;obtain ⟨x,r,rfl,h1,y,r2,rfl,h2,z,r3,rfl,h3,rfl⟩:=h;exact ⟨x,y,z,rfl,h1,h2,h3⟩
theorem FS.inter:∀ (F:FS J X W0 s0 sc env st W s),kA env=false:=by iterate 1 unfold kA;rw [F.er.kind];rfl
noncomputable def OK (J:Cx) (m:Nat) (p:Addr) (vs:Array ag) (L R x:Nat) (g:G):ag->Wd->ah->Prop:=fun v W' s'=>v= .none/\W'.H=g/\∃ SP,bS s'.heap p SP/\Seg m vs SP L R x
noncomputable def OI (J:Cx) (q:Str) (f c':Addr) (doc pm QR:ag) (cl:List (Str×Addr)) (m:Nat) (p:Addr) (j:Nat):Prop:=∀ {A:bf} {W:Wd} {s:ah} {vs:Array ag} {L R x:Nat} {tx tL tR:Tok},
  S3 J qf q Ib HQ f c' doc pm QR cl (rg m f p) W s->Qn J W s->f≠p->(∀ x c,cl.lookup x=some c->c≠p)->Apart J W s.heap p->bS s.heap p vs->L<R->R<=vs.size->vs.size<=60->x<2 ^ (m * (R-L))->x<2 ^ 60->R-L<=2 ^ j->Qs (j+10) A->Ex J A (call (.ref f) [.int x tx,.int L tL,.int R tR]) [p] W s (OK J m p vs L R x W.H)
theorem AL:∀ {m:Nat} {p:Addr} (fx:Fx J) (Qr:Ok J 9) (hm:m<=60) (j:Nat) (ih:∀ j',j=j'+1->OI J q f c' doc pm QR cl m p j'),OI J q f c' doc pm QR cl m p j:=by iterate 7
 intro A W s vs L R x tx tL tR C hw Uo UN ap pl hLR hR h60 hx Ya hj hA;refine C.enter fx (ps:=["x","L","R"]) (ds:=[.int x,.int L,.int R]) (by rfl') (by decide) (by decide) (by decide) rfl rfl rfl ?_ ?_ (by dsimp only [Qo,Rd];exact ⟨_,_,rfl,⟨tx,rfl⟩,_,_,rfl,⟨tL,rfl⟩,_,_,rfl,⟨tR,rfl⟩,rfl⟩) hw (by have:=hA.2.1;omega) fun env Qg hec F C1=>?_
 ·intro x hx;have:=al hx;simp [qf] at this;rcases this with rfl | rfl | rfl<;>rfl'
 ·intro x hx;obtain ⟨d,hd⟩:=b6.mp hx;have:=al hd;simp [rg] at this;rcases this with ⟨rfl,_⟩ | ⟨rfl,_⟩ | ⟨rfl,_⟩<;>rfl'
 have QY:Qs (j+9) (A.deeper env):=hA.deeper;have TM:Qs 9 (A.deeper env):=QY.le (by omega);have apE:∀ b∈am env,b∉[p]:=fun b hb=>by
  simp only [ej];rcases aq.mp hb with rfl | hb
  ·intro e;have:=F.nl;rw [e] at this;obtain ⟨o,eo⟩:=ap.2.2.2;rw [this] at eo;cases eo
  ·rw [hec] at hb;obtain ⟨⟨y,c⟩,h1,rfl⟩:=aH.mp hb;obtain ⟨d,_,h2⟩:=C.keys _ h1;exact UN _ _ h2
 have fX:∀ {W1:Wd} {s1:ah},Qk J [] W s W1 s1->bS s1.heap p vs/\Apart J W1 s1.heap p:=fun t=>⟨bS.keep pl (ap.at t (by simp)),ap.keep t⟩
 unfold HQ;have ht:ceT P0 9 qf ⟨[("x",.int x),("L",.int L),("R",.int R)],rg m f p,none⟩ NF W.H=some (((L:Int)+1==(R:Int)),W.H):=by rfl'
 refine ao (fC (Ex.into (Qr.t ht rfl F.tr.ok F.er TM) fun b W2 s2 k2 z0=>?_));obtain ⟨hbb,RW⟩:=z0;subst hbb;have F2:=F.expr k2;have C2:=C1.step k2 trivial;by_cases WV:L+1=R
 ·subst WV;have hbt:((L:Int)+1==((L+1:Nat):Int))=true:=by simp
  rw [hbt,if_pos rfl];obtain ⟨pl2,XB⟩:=fX F2.tr;have hp:=C2.cells "a_digits" (.raw p) (by rfl');obtain ⟨vx,hvx,rx⟩:=F2.er.vars "x" (.int x) (by rfl');obtain ⟨vl,hvl,rl⟩:=F2.er.vars "L" (.int L) (by rfl');obtain ⟨vp,hvp,rp⟩:=F2.er.vars "a_digits" (.raw p) (by rfl');dsimp only [Rd] at rx rl rp;obtain ⟨tx2,rfl⟩:=rx;obtain ⟨tl2,rfl⟩:=rl;subst rp;have hx1:x<2 ^ m:=by simpa using hx
  refine ao (lQ (bq (db hvx F2.er.kind (by decide) ?_) (by decide)) rfl);refine bq (db hvp F2.er.kind (by decide) (bq (db hvl F2.er.kind (by decide) ?_) (by decide))) (by decide);refine tM pl2 (by omega) (by omega) (by omega) fun h' pl3 sb=>?_;refine ao (wpAny_Return_none ?_);have t3:Qk J [p] W2 s2 W2 {s2 with heap:=h'}:=F2.tr.ok.sameBut (tk:=s2.toks) sb ⟨XB.1,XB.2.1,XB.2.2.1⟩ (by obtain ⟨o,_,e,_⟩:=pl3;exact ⟨o,e⟩);exact ⟨W2,(F2.weaken (X:=[p])).tr.RL t3,rfl,RW,_,pl3,Seg.one (by omega) hx1⟩
 ·have hbf:((L:Int)+1==(R:Int))=false:=by
   simp only [beq_eq_false_iff_ne];omega
  rw [hbf,if_neg aJ];refine aW ?_
  -- mid
  have TQ:ceE P0 9 qf ⟨[("x",.int x),("L",.int L),("R",.int R)],rg m f p,none⟩ Lp W2.H=some (.int ((L+R) / 2:Nat),W2.H):=by
   have h1:ceE P0 9 qf ⟨[("x",.int x),("L",.int L),("R",.int R)],rg m f p,none⟩ Lp W2.H=some (.int (aL ((L:Int)+(R:Int)) (2 ^ (1:Int).toNat)),W2.H):=by rfl'
   rw [h1,<-fy,aV _ (by decide)];rfl
  refine ao (bj (Ex.into (Qr.e TQ rfl F2.tr.ok F2.er TM) fun v W3 s3 k3 z1=>?_) rfl);obtain ⟨Sf,rv⟩:=z1;have F3:=F2.expr k3;refine af (F3.store (x:="mid") (d:= .int ((L+R) / 2:Nat)) (by decide) rfl rv) (fun _ s4 F4=>?_) fun _ _ f=>f;generalize hM:(L+R) / 2=M at F4 rv;have YW:L<M:=by omega
  have YU:M<R:=by omega
  -- shift
  have WQ:ceE P0 9 qf ((⟨[("x",.int x),("L",.int L),("R",.int R)],rg m f p,none⟩:St).withRho [("mid",.int M),("x",.int x),("L",.int L),("R",.int R)]) K9 W3.H=some (.int ((M-L) * m:Nat),W3.H):=by
   have h1:ceE P0 9 qf ((⟨[("x",.int x),("L",.int L),("R",.int R)],rg m f p,none⟩:St).withRho [("mid",.int M),("x",.int x),("L",.int L),("R",.int R)]) K9 W3.H=(binop .Mult (.int ((M:Int)-L)) (.int m)).bind fun d=>some (d,W3.H):=by rfl'
   rw [h1];have hs:lw ((M:Int)-L)=true:=by unfold lw;simp only [decide_eq_true_eq];omega
   have:((M:Int)-L) * m=(((M-L) * m:Nat):Int):=by rw [da,nE (by omega)]
   rw [Iu (by rw [hs,fM]),this];rfl
  refine ao (bj (Ex.into (Qr.e WQ rfl F4.tr.ok F4.er TM) fun v W5 s5 k5 z2=>?_) rfl);obtain ⟨VU,Zp⟩:=z2;have F5:=F4.expr k5;have hKe:m * (M-L)=(M-L) * m:=bE _ _;have hKl:(M-L) * m<=3600:=m9 (show M-L<=60 by omega) hm;have VO:2 ^ (m * (R-L))=2 ^ ((M-L) * m) * 2 ^ (m * (R-M)):=by rw [<-hKe,<-lK,<-jP,show M-L+(R-M)=R-L by omega]
  generalize hK:(M-L) * m=K at Zp F5 hKe hKl VO;refine af (F5.store (x:="shift") (d:= .int (K:Nat)) (by decide) rfl Zp) (fun _ s6 F6=>?_) fun _ _ f=>f
  -- upper
  have hU:ceE P0 9 qf ((⟨[("x",.int x),("L",.int L),("R",.int R)],rg m f p,none⟩:St).withRho [("shift",.int K),("mid",.int M),("x",.int x),("L",.int L),("R",.int R)]) Lv W5.H=some (.int ((x / 2 ^ K:Nat):Int),W5.H):=by
   have h1:ceE P0 9 qf ((⟨[("x",.int x),("L",.int L),("R",.int R)],rg m f p,none⟩:St).withRho [("shift",.int K),("mid",.int M),("x",.int x),("L",.int L),("R",.int R)]) Lv W5.H=(binop .RShift (.int x) (.int K)).bind fun d=>some (d,W5.H):=by rfl'
   rw [h1];rw [Ih (az K),aP,aV _ (jc (lO (by decide)))];rfl
  refine ao (bj (Ex.into (Qr.e hU rfl F6.tr.ok F6.er TM) fun v W7 s7 k7 z3=>?_) rfl);obtain ⟨YG,Zo⟩:=z3;have F7:=F6.expr k7;have hxu:x / 2 ^ K<2 ^ (m * (R-M)):=il (by rw [<-VO];exact hx);have Zv:x % 2 ^ K<2 ^ (m * (M-L)):=by rw [hKe];exact bR _ (dk (by decide))
  have Yd:x / 2 ^ K<2 ^ 60:=iJ (Nat.div_le_self _ _) Ya;have Yz:x % 2 ^ K<2 ^ 60:=iJ (Nat.mod_le _ _) Ya;have WH:=Iw x K;have hjU:∀ {L':Nat},L'=M-L->K=L' * m:=fun e=>by rw [e,hK]
  generalize hUe:x / 2 ^ K=u at F7 Zo hxu Yd WH;generalize YV:x % 2 ^ K=lo at Zv Yz WH;refine af (F7.store (x:="upper") (d:= .int u) (by decide) rfl Zo) (fun _ s8 F8=>?_) fun _ _ f=>f
  -- lower
  have hV:ceE P0 9 qf ((⟨[("x",.int x),("L",.int L),("R",.int R)],rg m f p,none⟩:St).withRho [("upper",.int u),("shift",.int K),("mid",.int M),("x",.int x),("L",.int L),("R",.int R)]) LS W7.H=some (.int ((u * 2 ^ K:Nat):Int),W7.H):=by
   have h1:ceE P0 9 qf ((⟨[("x",.int x),("L",.int L),("R",.int R)],rg m f p,none⟩:St).withRho [("upper",.int u),("shift",.int K),("mid",.int M),("x",.int x),("L",.int L),("R",.int R)]) LS W7.H=(binop .LShift (.int u) (.int K)).bind fun d=>some (d,W7.H):=by rfl'
   rw [h1];have hs:lw (u:Int)=true:=by unfold lw;simp only [decide_eq_true_eq];omega
   rw [Iq (az K) (by omega) hs,aP,da,eD];rfl
  obtain ⟨vx,hvx,rx⟩:=F8.er.vars "x" (.int x) (by rfl');dsimp only [Rd] at rx;obtain ⟨tx2,rfl⟩:=rx;refine ao (bj (hH (bq (db hvx F8.er.kind (by decide) (Ex.into (Qr.e hV rfl F8.tr.ok F8.er TM) fun v9 W9 s9 k9 z4=>?_)) (by decide))) rfl);obtain ⟨VT,rv9⟩:=z4;dsimp only [Rd] at rv9;obtain ⟨t9,rfl⟩:=rv9;refine xor_int ?_;rw [WH];have We:Qk J [] W9 s9 W9 {s9 with toks:=s9.toks+1}:=Qk.toks k9.ok;have F10:=(F8.expr k9).expr We;refine af (F10.store (x:="lower") (d:= .int lo) (by decide) rfl (by dsimp only [Rd];exact ⟨_,rfl⟩)) (fun _ s11 V8=>?_) fun _ _ f=>f;have C11:S3 J qf q Ib HQ f c' doc pm QR cl (rg m f p) W9 s11:=C.step V8.tr trivial;obtain ⟨aao,XC⟩:=fX V8.tr;have g9:W9.H=W.H:=VT.trans (YG.trans (VU.trans (Sf.trans RW)));obtain ⟨j',rfl⟩:∃ j',j=j'+1:=by cases j with | zero=>simp at hj;omega | succ j'=>exact ⟨j',rfl⟩
  have hp:2 ^ (j'+1)=2 * 2 ^ j':=by rw [fQ,bE]
  have Vt:Qs (j'+10) (A.deeper env):=QY.le (by omega);have e1:ceEs P0 9 qf ((⟨[("x",.int x),("L",.int L),("R",.int R)],rg m f p,none⟩:St).withRho [("lower",.int lo),("upper",.int u),("shift",.int K),("mid",.int M),("x",.int x),("L",.int L),("R",.int R)]) J0 W9.H=some ([.int lo,.int L,.int M],W9.H):=by rfl'
  refine ao (dE (Ex.into (vo (X:=[p]) (P:=OK J m p vs L M lo W9.H) Qr V8.er V8.tr.ok C11 (by rfl') e1 TM fun V6 s12 ws XI Xf aah=>?_) fun v13 Zg s13 X8 ⟨_,abc,Zj,aan,sg1⟩=>?_) V8.inter rfl)
  ·obtain ⟨va,vb,vc,rfl,ra,rb,rc⟩:=Bd aah;dsimp only [Rd] at ra rb rc;obtain ⟨ta,rfl⟩:=ra;obtain ⟨tb,rfl⟩:=rb;obtain ⟨tc,rfl⟩:=rc;have:=ih j' rfl (tx:=ta) (tL:=tb) (tR:=tc) (C11.step XI trivial) XI.ok Uo UN (XC.keep XI) (bS.keep aao (XC.at XI (by simp))) YW (by omega) h60 Zv Yz (by omega) Vt;rw [Xf] at this;exact this
  ·have Z4:=(V8.weaken (X:=[p])).Y7 X8 apE;have C13:=C11.V9 X8 (by simpa using Uo) (fun x c e=>by simpa using UN x c e);have Zf:=XC.keep X8;have e2:ceEs P0 9 qf ((⟨[("x",.int x),("L",.int L),("R",.int R)],rg m f p,none⟩:St).withRho [("lower",.int lo),("upper",.int u),("shift",.int K),("mid",.int M),("x",.int x),("L",.int L),("R",.int R)]) J9 Zg.H=some ([.int u,.int M,.int R],Zg.H):=by rfl'
   refine ao (dE (Ex.into (vo (X:=[p]) (P:=OK J m p Zj M R u Zg.H) Qr Z4.er Z4.tr.ok C13 (by rfl') e2 TM fun W14 s14 ws Zu abb aag=>?_) fun v15 W15 s15 k15 ⟨_,aba,Zi,aam,sg2⟩=>?_) Z4.inter rfl)
   ·obtain ⟨va,vb,vc,rfl,ra,rb,rc⟩:=Bd aag;dsimp only [Rd] at ra rb rc;obtain ⟨ta,rfl⟩:=ra;obtain ⟨tb,rfl⟩:=rb;obtain ⟨tc,rfl⟩:=rc;have:=ih j' rfl (tx:=ta) (tL:=tb) (tR:=tc) (C13.step Zu trivial) Zu.ok Uo UN (Zf.keep Zu) (bS.keep aan (Zf.at Zu (by simp))) YU (by rw [sg1.size];omega) (by rw [sg1.size];omega) hxu Yd (by omega) Vt;rw [abb] at this;exact this
   ·refine aW ?_;refine ⟨W15,Z4.tr.RL k15,rfl,aba.trans (abc.trans g9),Zi,aam,Seg.join (M:=M) (by rw [hK,YV];exact sg1) (by rw [hK,hUe];exact sg2) (by omega) (by omega)⟩
theorem H7:∀ {m:Nat} {p:Addr} (fx:Fx J) (Qr:Ok J 9) (hm:m<=60) (j:Nat),OI J q f c' doc pm QR cl m p j:=by iterate 6
 induction j with
 | zero=>exact AL fx Qr hm 0 fun _ e=>nomatch e
 | succ j ih=>exact AL fx Qr hm (j+1) fun _ e=>cJ e▸ih
end
noncomputable def BD:aX:=(.mk .function [("a",.local),("n",.cell),("a_digits",.cell),("inner",.cell),("len",.globalImplicit)] false false [])
noncomputable def LW:Expr:=(.BinOp (.BinOp (.BinOp (.Call (.Attribute (.Name "a" ⟨73,23,73,24⟩) "bit_length" ⟨73,23,73,35⟩) [] [] ⟨73,23,73,37⟩) .Add (.Name "n" ⟨73,40,73,41⟩) ⟨73,23,73,41⟩) .Sub (.Constant (.int 1) 0 ⟨73,44,73,45⟩) ⟨73,23,73,45⟩) .FloorDiv (.Name "n" ⟨73,50,73,51⟩) ⟨73,22,73,51⟩)
noncomputable def U3:Fn:=⟨["a","n"],BD,
 [(.Assign [(.Name "a_digits" ⟨73,4,73,12⟩)] (.BinOp (.List [(.Constant (.int 0) 0 ⟨73,16,73,17⟩)] ⟨73,15,73,18⟩) .Mult LW ⟨73,15,73,52⟩) ⟨73,4,73,52⟩),
  (.FunctionDef "inner" Ib HQ [] none [] qf none "inner" ⟨75,4,84,28⟩),
  (.If (.Name "a" ⟨85,7,85,8⟩) [(.Expr (.Call (.Name "inner" ⟨86,8,86,13⟩) [(.Name "a" ⟨86,14,86,15⟩),(.Constant (.int 0) 0 ⟨86,17,86,18⟩),(.Call (.Name "len" ⟨86,20,86,23⟩) [(.Name "a_digits" ⟨86,24,86,32⟩)] [] ⟨86,20,86,33⟩)] [] ⟨86,8,86,34⟩) ⟨86,8,86,34⟩)] [] ⟨85,4,86,34⟩),
  (.Return (some (.Name "a_digits" ⟨87,11,87,19⟩)) ⟨87,4,87,19⟩)]⟩
theorem Gd:o8 P0 "_int2digits" =some U3:=by iterate 0 rfl'
theorem Dz:∀ (v:ag),∀ (k:Nat) (acc:Array ag),List.foldl (fun x1 x2=>x1++x2) acc (d6 k #[v])=acc++(d6 k v).toArray:=by iterate 1 intro k;induction k with | zero=>intro acc;simp | succ k Qj=>intro acc;rw [lu,jB,Qj,lu];apply Array.toList_inj.mp;simp
theorem DP:∀ (a:Nat),a<2 ^ dL a:=by iterate 1
 unfold dL;split
 ·subst_vars;decide
 ·exact mD
theorem DZ:∀ {a k:Nat} (h:a<2 ^ k),dL a<=k:=by iterate 3
 unfold dL;split
 ·omega
 ·rename_i h0;exact (iz h0).mpr h
theorem DL:∀ {a m:Nat} (ha:a<2 ^ 60) (hm:1<=m),(dL a+m-1) / m<=60/\a<2 ^ (m * ((dL a+m-1) / m))/\(a≠0->0<(dL a+m-1) / m)/\(a=0->(dL a+m-1) / m=0):=by iterate 4
 have hz:a=0->(dL a+m-1) / m=0:=fun h=>by subst h;exact eY (by show 0+m-1<m;omega)
 have hb:=DZ ha;have h1:=DP a;generalize dL a=b at hb h1 hz;have d1:=eB (b+m-1) m;have d2:=bR (b+m-1) (show 0<m by omega);generalize (b+m-1) / m=k at d1 hz;have hk:b<=m * k:=by omega
 refine ⟨?_,dB h1 (a8 (by decide) hk),fun h0=>?_,hz⟩
 ·by_cases YC:k=0
  ·omega
  ·have h2:m * k<=b+m-1:=by omega
   have h3:m * (k-1)<=b-1:=by rw [Nat.mul_sub,Nat.mul_one];omega
   have h4:k-1<=m * (k-1):=kI _ (by omega);omega
 ·rcases Nat.eq_zero_or_pos k with rfl | h
  ·simp at hk;subst hk;simp at h1;omega
  ·exact h
section
variable {J:Cx} {A:bf} {W W0 W':Wd} {s s0 s1 s':ah} {X:List Addr} {sc VH:aX} {st:St} {env:Env}
theorem JH:∀ {a m:Nat} {g:G} (ZF:1<=m) (hm2:m<=60),ceE P0 9 BD ⟨[("a",.int a),("n",.int m)],[],none⟩ LW g=some (.int ((dL a+m-1) / m:Nat),g):=by iterate 5
 have h1:ceE P0 9 BD ⟨[("a",.int a),("n",.int m)],[],none⟩ LW g=(binop .FloorDiv (.int ((dL (a:Int).natAbs:Int)+(m:Int)-1)) (.int m)).bind fun d=>some (d,g):=by rfl'
 rw [h1];have hs:lw (m:Int)=true:=by unfold lw;simp only [decide_eq_true_eq];omega
 rw [Hz (by omega) hs,aV _ (az _)];have:((dL (a:Int).natAbs:Int)+(m:Int)-1)=((dL a+m-1:Nat):Int):=by rw [fZ];omega
 rw [this];rfl
theorem Jo:∀ {x:Str} {p1 p2 pos:Pos} {p:Addr} {vs:Array ag} (fx:Fx J) (R:Ql J W s.heap sc st env []) (hw:Qn J W s) (hg:pZ sc "len" =true) (hx:mt x=true) (hv:varD sc st x=some (.raw p)) (pl:bS s.heap p vs) (Rm:vs.size<=60),Ex J A (eval (.Call (.Name "len" p1) [(.Name x p2)] [] pos) env) [] W s (li J (.int vs.size) W.H):=by iterate 14 obtain ⟨v,Se,r1⟩:=R.vars x _ hv;dsimp only [Rd] at r1;subst r1;have cf:=px fx (f:="len") (by decide);refine bH (bk R.kind (R.global hg) (cf.1.load R hw ?_) (by decide));refine pa (first:=[]) cf (by rfl) ?_;refine aR (bq (db Se R.kind hx ?_) (oJ hx).1) rfl;refine aZ ⟨hw.Qw,?_⟩;obtain ⟨o,n,e1,e2,e3,e4⟩:=pl;exact fO (items:=vs) ⟨o,e1,e2,n,e4⟩ (by omega) (nw hw)
theorem Dw:∀ {ds:List D} {g g':G} {d:D} (fx:Fx J) (tx:Tx J) (Qr:Ok J 9) (tf:xL J "_int2digits" "_int2digits.<locals>.inner" ⟨75,4,84,28⟩) (h:qL ds g=some (d,g')),∃ fv,pN J "_int2digits" fv/\∀ {A W s vs},Qs 30 A->W.H=g->Qo J W.F W.as ds vs->Qn J W s->Ex J A (call fv vs) [] W s (li J d g'):=by iterate 9
 obtain ⟨T,hT,YS,YT,mg,mb,a,o,fd,Ux,Yu,Yv,hF,Wo,Q6,XM,Qz⟩:=tf;have Qz:=Qz _ Gd;refine ⟨.ref a,ud Ux Yu Yv Qz,fun {A W s vs} hA hg hd hw=>?_⟩;replace h:=vq h;obtain ⟨⟨d0,d1⟩,h1,b,h2,m,h3,h⟩:=h;cases rm h1;cases be h2;cases be h3;split at h;rotate_left
 ·cases h
 rename_i hc;cases h;obtain ⟨hb0,Vp,ZF,WY⟩:=hc;obtain ⟨m,rfl⟩:=eE (show 0<=m by omega);obtain ⟨b,rfl⟩:=eE hb0;rw [aP,aP];have Vp:b<2 ^ 60:=by omega
 have ZF:1<=m:=by omega
 have WY:m<=60:=by omega
 obtain ⟨WZ,hbk,Wj,hkz⟩:=DL Vp ZF;have hK:=fun g=>JH (a:=b) (g:=g) ZF WY;generalize (dL b+m-1) / m=k at WZ hbk Wj hkz hK;refine eV (vd (ds:=[.int b,.int m]) fx Qz rfl (by have:=hA.2.1;omega) hd hw fun env Qg R z0=>?_);obtain ⟨o',fd',Wt,TF,Tf⟩:=z0;rw [hF] at Wt;cases Wt;rw [Wo] at TF;cases TF;have QY:Qs 29 (A.deeper env):=hA.deeper;have TM:Qs 9 (A.deeper env):=QY.le (by omega);show aD _ _ (gg U3.body env) _ _ _;unfold U3
 -- Wz list
 refine ao (bj (hH (gU (aR (bO (aZ ⟨by simp [dw],?_⟩)) rfl))) rfl);have k1:Qk J [] W Qg W {Qg with heap:=Qg.heap.push {cls:= .type "list",data:= .seq [dZ 0 Qg.toks].toArray},toks:=Qg.toks+1}:=Qk.push R.ok _;have R1:=R.expr k1;have X7:({Qg with heap:=Qg.heap.push {cls:= .type "list",data:= .seq [dZ 0 Qg.toks].toArray},toks:=Qg.toks+1}:ah).heap.get? Qg.heap.objs.size=some {cls:= .type "list",data:= .seq [dZ 0 Qg.toks].toArray}:=ax _ rfl;have n0:=R.ok.QL (bn Qg.heap);have apl:Apart J W _ Qg.heap.objs.size:=⟨n0.1,n0.2.1,n0.2.2,_,X7⟩
 refine Ex.into (Qr.e (hK W.H) rfl R1.ok R1.R TM) fun vk W2 s2 k2 z1=>?_;obtain ⟨RW,rk⟩:=z1;dsimp only [Rd] at rk;obtain ⟨tk,rfl⟩:=rk;have R2:=R1.expr k2;refine Hn (apl.at k2 (by simp) _ X7) (az _) (by omega) (by simp;omega) ?_;rw [if_neg (by simp),aP,Dz];have Wg:s2.heap.get? s2.heap.objs.size=none:=bn _;generalize Tp:({cls:= .type "list",data:= .seq (#[]++(d6 k (dZ 0 Qg.toks)).toArray)}:Obj)=ob;have k3:Qk J [] W2 s2 W2 {s2 with heap:=s2.heap.push ob}:=Qk.push R2.ok _;have pat:({s2 with heap:=s2.heap.push ob}:ah).heap.get? s2.heap.objs.size=some ob:=ax _ (by rw [<-Tp];rfl);have np:=R2.ok.QL Wg;have hpF:=R2.QW Wg;have XN:=R2.tr.Qt Wg;have Wh:=R2.RH Wg;have R3:=R2.expr k3;generalize hp:s2.heap.objs.size=p at pat np hpF XN Wh;have ap3:Apart J W2 ({s2 with heap:=s2.heap.push ob}:ah).heap p:=⟨np.1,np.2.1,np.2.2,_,pat⟩
 have ZA:p∉am env:=fun hm=>hpF (by simpa using hm);refine af ((R3.rebase).store (x:="a_digits") (v:= .ref p) (d:= .raw p) (by rfl') (by rfl') (by dsimp only [Rd])) (fun _ s4 z2=>?_) fun _ _ f=>f;obtain ⟨k4,R4⟩:=z2;obtain ⟨ap4,kp4⟩:=R4.keep p ap3 ZA (by simp)
 -- inner
 obtain ⟨cd,RC⟩:=wR R4.R (x:="a_digits") (d:= .raw p) (by rfl') (by rfl');obtain ⟨cn,Ws⟩:=wR R4.R (x:="n") (d:= .int m) (by rfl') (by rfl');obtain ⟨ci,vi,VD,_⟩:=R4.R.cells "inner" (by rfl');have Tg:eX qf env=pure [(("n" :Str),cn),("inner",ci),("a_digits",cd)]:=by
  have:=sL (scope:=qf) (env:=env) fun y hy=>by
   simp [qf] at hy;rcases hy with rfl | rfl | rfl
   ·exact ⟨_,RC⟩
   ·exact ⟨_,VD⟩
   ·exact ⟨_,Ws⟩
  rw [this];congr 1;show [(("n" :Str),(env.cells.lookup ("n" :Str)).getD 0),("inner",(env.cells.lookup ("inner" :Str)).getD 0),("a_digits",(env.cells.lookup ("a_digits" :Str)).getD 0)]=_;rw [Ws,VD,RC];rfl
 refine ao (yJ tx hT R4.rebase rfl rfl (by rfl') (by rw [Tf];exact Q6) YT.symm (by rw [xO R4.R (by rfl') Tf XM,YS];rfl') Tg (by rfl') rfl fun f c' doc pm QR W6 s6 R6 g6 hf6 ap6 Xl nf=>?_);obtain ⟨app,kp6⟩:=R6.keep p ap4 ZA (by simp);have aaq:=kp6 _ (kp4 _ pat);have Uo:f≠p:=fun e=>by rw [e,kp4 _ pat] at nf;cases nf
 have pl6:bS s6.heap p (d6 k (dZ 0 Qg.toks)).toArray:=⟨ob,0,aaq,by rw [<-Tp],by rw [<-Tp],by rw [<-Tp];simp⟩
 have C6:S3 J qf T.q Ib HQ f c' doc pm QR [(("n" :Str),cn),("inner",ci),("a_digits",cd)] (rg m f p) W6 s6:=by
  refine S3.of R6.R hf6 ap6 Xl (fun p hp=>?_) (fun x d e=>?_)
  ·simp only [aq,aO,or_false] at hp;rcases hp with rfl | rfl | rfl
   ·exact ⟨Ws,by rfl',by rfl'⟩
   ·exact ⟨VD,by rfl',by rfl'⟩
   ·exact ⟨RC,by rfl',by rfl'⟩
  ·have z:=al e;simp only [rg,aq,aO,or_false,cR] at z;rcases z with ⟨rfl,rfl⟩ | ⟨rfl,rfl⟩ | ⟨rfl,rfl⟩
   ·exact ⟨by rfl',by rfl',cn,by simp⟩
   ·exact ⟨by rfl',by rfl',ci,by simp⟩
   ·exact ⟨by rfl',by rfl',cd,by simp⟩
 have UN:∀ x c,cG x [(("n" :Str),cn),("inner",ci),("a_digits",cd)]=some c->c≠p:=fun x c e q=>by
  subst q;refine ZA (av _ ?_);have z:=al e;simp only [aq,aO,or_false,cR] at z;rcases z with ⟨rfl,rfl⟩ | ⟨rfl,rfl⟩ | ⟨rfl,rfl⟩
  ·exact aH.mpr ⟨_,al Ws,rfl⟩
  ·exact aH.mpr ⟨_,al VD,rfl⟩
  ·exact aH.mpr ⟨_,al RC,rfl⟩
 subst hg;have g6':W6.H=W.H:=g6.trans RW
 -- Wz end
 have fin:∀ {W7:Wd} {s7:ah} {SP:Array ag},Qk J [p] W6 s6 W7 s7->W7.H=W.H->bS s7.heap p SP->Qo J W7.F W7.as ((pB k (2 ^ m) b).map .int) SP.toList->
   aD (aC P0 J.w) (A.deeper env) (gg [(.Return (some (.Name "a_digits" ⟨87,11,87,19⟩)) ⟨87,4,87,19⟩)] env) (fun f s'=>∃ W',Qk J [] W s W' s'/\li J (.lst ((pB k (2 ^ m) b).map .int)) W.H (match f with | .ret v=>v | _=> .none) W' s') (fun _ _=>False) s7:=by
  intro W7 s7 SP t YG pl7 rd7;have e7:=R6.R.keep t (fun a ha q=>ZA (by simp at q;subst q;simpa using ha));obtain ⟨v,Se,r1⟩:=e7.vars "a_digits" (.raw p) (by rfl');dsimp only [Rd] at r1;subst r1;have tr7:Qk J [] W s W7 s7:=R6.tr.trans t (by simp [XN]);obtain ⟨ob',_,t8,r8⟩:=wk (o:= .lst ((pB k (2 ^ m) b).map .int)) tr7 XN (app.keep t) ⟨by simp [sX];unfold lim;omega,SP,pl7,rd7⟩;refine ao (cm (bq (db Se e7.kind (by decide) ?_) (by decide)));exact ⟨_,t8,YG,r8⟩
 -- if a
 obtain ⟨va,hva,ra⟩:=R6.R.vars "a" (.int b) (by rfl');dsimp only [Rd] at ra;obtain ⟨ta,rfl⟩:=ra;refine ao (fC (dP (bq (db hva R6.R.kind (by decide) (truthy_int ?_)) (by decide)) rfl));by_cases hz:b=0
 ·subst hz;rw [if_neg (by simp)];refine aW ?_;have YC:k=0:=hkz rfl;subst YC;exact fin (Qk.refl R6.ok) g6' pl6 (by exact (rfl:([]:List ag)=[]))
 ·rw [if_pos (by simp;omega)];obtain ⟨v,Se,r1⟩:=R6.R.vars "inner" (.raw f) (by rfl');dsimp only [Rd] at r1;subst r1;refine ao (dE ?_ (rq R6) rfl);refine bH (bq (db Se R6.R.kind (by decide) ?_) (by decide));refine c9 (P:=eH f) rfl (fun h=>cX h) (pz rfl ?_);refine aR (bq (db hva R6.R.kind (by decide) ?_) (by decide)) rfl;refine aR (bO ?_) rfl;have k8:Qk J [] W6 s6 W6 {s6 with toks:=s6.toks+1}:=Qk.toks R6.ok;have R8:=R6.expr k8;refine aR (Ex.into (Jo fx (p:=p) R8.R R8.ok (by rfl') (by decide) (by rfl') (bS.keep pl6 (app.at k8 (by simp))) (by simpa using WZ)) fun vl W9 s9 k9 z3=>?_) rfl;obtain ⟨VT,rl⟩:=z3;dsimp only [Rd] at rl;obtain ⟨tl,rfl⟩:=rl;have Zs:=k8.Qi k9;have C9:=C6.step Zs trivial;have R9:=R8.expr k9;refine aZ ⟨⟨_,_,_,_,C9.hF⟩,?_⟩;have Rm:(d6 k (dZ 0 Qg.toks)).toArray.size=k:=by simp
  rw [Rm];have:=H7 fx Qr WY 6 (L:=0) (R:=k) (x:=b) (tx:=ta) (tL:=s6.toks) (tR:=tl) C9 R9.ok Uo UN (app.keep Zs) (bS.keep pl6 (app.at Zs (by simp))) (Wj hz) (by simp) (by simpa using WZ) (by simpa using hbk) Vp (by omega) (QY.le (by omega));refine Ex.into this fun v W10 s10 We y0=>?_;obtain ⟨_,Vj,SP,aap,sg⟩:=y0;refine aW (fin (Zs.Sr We) (Vj.trans (VT.trans g6')) aap ?_);have Yh:=sg.size;rw [Rm] at Yh;refine Qo.of_get (by simp [sX,Yh]) fun i d v h1 h2=>?_;have hi:i<k:=by have:=(aj.mp h1).1;simpa [sX] using this
  rw [b8,zC k b i hi] at h1;simp only [cY,fi] at h1;subst h1;obtain ⟨t,e⟩:=sg.at_ i (by omega) hi;rw [eP,e] at h2;cases h2;dsimp only [Rd];exact ⟨t,by rw [<-jN];rfl⟩
end
section
variable {M:Model} {A:bf} {R:GenEnd} {Y:m8} {n:Nat} {Qp:ah} {c:Code} {fs:List Frame} {s:ah} {env:Env}
 {K:Flow->Sem Fin} {ahb:ag->Sem Fin} {gd:Bool->Bool} {lv:List ag->List ag}
theorem qB:∀ {α:Type} {B:bf} {m:Sem α} {Q:α->ah->Prop} {E:ag->ah->Prop} (h:aD M B m Q (fun _ _=>False) s),aD M B m Q E s:=by iterate 6 exact (af h (fun _ _ q=>q) fun _ _ (f:False)=>f.elim)
theorem Bp:∀ {zM:Expr} {b o:List Stmt} {pos:Pos} (h:aD M (A.over c fs) (jT zM env (eval zM env)) (fun t s'=>cq M A R Y n Qp c ((gg (if t then b else o) env).wrap K ahb gd lv) fs s') (fun _ _=>False) s),cq M A R Y n Qp c ((exec (.If zM b o pos) env).wrap K ahb gd lv) fs s:=by iterate 5 rw [exec_If];refine cO (bt (cO (qB (af h (fun t s' q=>?_) fun _ _ f=>f))));cases t<;>exact q
theorem u1:∀ {st:Stmt} (h:aD M (A.over c fs) (exec st env) (fun f s'=>cq M A R Y n Qp c (K f) fs s') (fun _ _=>False) s),cq M A R Y n Qp c ((exec st env).wrap K ahb gd lv) fs s:=by iterate 2 exact (seg_wrap (qB h))
theorem Ik:∀ {t it:Expr} {body orelse:List Stmt} {pos:Pos} (hs:∀ x,gX it env x=pure x) (h:aD M (A.over c fs) (eval it env) (fun xv Qg=>aD M (A.over c fs) (kz xv) (fun iv Q4=>∀ p,cq M A R Y n Qp (.forLoop t iv body orelse env) (M.den (.forLoop t iv body orelse env))
   (.ret (fun r=>((match r with | .ok f=>(.pure f:Sem Flow) | .error e=> .raise e).onRaise fun (x:ag)=>do
    if (<-lI x 1)==iI then unsupported "frame.own-activation:exception-without-traceback"
    setFlight x env.frame).wrap K ahb gd lv) none (gd false) (lv []) c p []::fs) Q4) (fun _ _=>False) Qg) (fun _ _=>False) s),cq M A R Y n Qp c ((exec (.For t it body orelse pos) env).wrap K ahb gd lv) fs s:=by iterate 7
 rw [exec_For];refine cO (bt (cO (qB (af h (fun xv s1 q=>?_) fun _ _ f=>f))));refine cO (gb (hs xv) (cO (bt (cO (bu (qB (af q (fun iv s2 q=>?_) fun _ _ f=>f)))))));exact seg_call q
end
noncomputable def Jt (env:Env) (e:ag):Sem Fin:=(do gW e env;dY e:Sem Unit).wrap (fun _=> .raise e) .raise id id
noncomputable def FX (t:Expr) (it:ag) (body orelse:List Stmt) (env:Env):Flow->Sem Fin
| .next | .cont=> .pure (.again (.forLoop t it body orelse env))
| .brk=> .pure (.done .next)
| .ret v=> .pure (.done (.ret v))
section
variable {prog:bY} {w:jl} {A:bf} {R:GenEnd} {Y:m8} {n:Nat} {Qp:ah} {fs:List Frame} {s:ah} {env:Env}
theorem wL:∀ {t:Expr} {it:ag} {body orelse:List Stmt} (h:aD (aC prog w) (A.over (.forLoop t it body orelse env) fs) (eF it) (fun r Qg=>match r with
   | none=>cq (aC prog w) A R Y n Qp (.forLoop t it body orelse env) (.pure (.again (.block orelse env))) fs Qg
   | some v=>aD (aC prog w) (A.over (.forLoop t it body orelse env) fs) (cH t it v) (fun _ Q4=>aD (aC prog w) (A.over (.forLoop t it body orelse env) fs) (assign t env v) (fun _ QK=>cq (aC prog w) A R Y n Qp (.forLoop t it body orelse env) ((gg body env).wrap (FX t it body orelse env) (Jt env) id id) fs QK) (fun _ _=>False) Q4) (fun _ _=>False) Qg) (fun _ _=>False) s),cq (aC prog w) A R Y n Qp (.forLoop t it body orelse env) ((aC prog w).den (.forLoop t it body orelse env)) fs s:=by iterate 5
 show cq _ A R Y n Qp _ ((forTurn t it body orelse env).onRaise (fun x=>do gW x env;dY x)) fs s;unfold forTurn;rw [Sem.onRaise_eq_wrap];refine cO (bt (cO (lE (af h (fun r s1 q=>?_) fun _ _ (f:False)=>f.elim))));cases r with
 | none=>exact q
 | some v=>
  refine cO (qB (af q (fun _ s2 q=>?_) fun _ _ f=>f));refine cO (qB (af q (fun _ s3 q=>?_) fun _ _ f=>f));rw [Sem.bind_eq_wrap',Sem.wrap_wrap];rw [Sem.wrap_congr (gg body env) _ _ (K':=FX t it body orelse env) (H':=Jt env)
    (fun f=>by cases f<;>rfl)
    (fun e=>by first | exact mz _ _ | (show (do gW e env;dY e:Sem Unit).bind (fun _=> .raise e)=_;unfold Jt;rw [mz]))]
  exact q
theorem yf:∀ {c:Code} (h:cq (aC prog w) A R Y n Qp (.block [] env) (leafOf (.ok .next)) fs s),cq (aC prog w) A R Y n Qp c (.pure (.again (.block [] env))) fs s:=by iterate 2 exact (seg_again rfl h)
end
noncomputable def Kq:aX:=(.mk .function [("addr",.local),("pos",.local),("escape",.local),("ch",.local),("enumerate",.globalImplicit)] true false [])
noncomputable def P6:List Expr:=[(.Name "pos" ⟨5,8,5,11⟩),(.Name "ch" ⟨5,13,5,15⟩)]
noncomputable def yx:Expr:=(.Tuple P6 0 ⟨5,8,5,15⟩)
noncomputable def PK:Expr:=(.Call (.Name "enumerate" ⟨5,19,5,28⟩) [(.Name "addr" ⟨5,29,5,33⟩)] [] ⟨5,19,5,34⟩)
noncomputable def gC:Expr:=(.Compare (.Name "ch" ⟨9,13,9,15⟩) [.Eq] [(.Constant (.str "\\") 0 ⟨9,19,9,23⟩)] ⟨9,13,9,23⟩)
noncomputable def P7:Stmt:=(.Expr (.Yield (some (.Tuple [(.Name "pos" ⟨7,19,7,22⟩),(.BinOp (.Constant (.str "\\") 0 ⟨7,24,7,28⟩) .Add (.Name "ch" ⟨7,31,7,33⟩) ⟨7,24,7,33⟩)] 0 ⟨7,18,7,34⟩)) ⟨7,12,7,34⟩) ⟨7,12,7,34⟩)
noncomputable def PT:Stmt:=(.Expr (.Yield (some (.Tuple [(.Name "pos" ⟨12,19,12,22⟩),(.Name "ch" ⟨12,24,12,26⟩)] 0 ⟨12,18,12,27⟩)) ⟨12,12,12,27⟩) ⟨12,12,12,27⟩)
noncomputable def PS:Stmt:=(.Expr (.Yield (some (.Tuple [(.Name "pos" ⟨14,15,14,18⟩),(.Constant (.str "\\") 0 ⟨14,20,14,24⟩)] 0 ⟨14,14,14,25⟩)) ⟨14,8,14,25⟩) ⟨14,8,14,25⟩)
noncomputable def tT:List Stmt:=[(.If (.Name "escape" ⟨6,11,6,17⟩) [P7,(.Assign [(.Name "escape" ⟨8,12,8,18⟩)] (.Constant (.bool false) 0 ⟨8,21,8,26⟩) ⟨8,12,8,26⟩)] [(.If gC [(.Assign [(.Name "escape" ⟨10,12,10,18⟩)] (.Constant (.bool true) 0 ⟨10,21,10,25⟩) ⟨10,12,10,25⟩)] [PT] ⟨9,8,12,27⟩)] ⟨6,8,12,27⟩)]
noncomputable def KJ:Stmt:=(.If (.Name "escape" ⟨13,7,13,13⟩) [PS] [] ⟨13,4,14,25⟩)
noncomputable def Rx:Fn:=⟨["addr"],Kq,[(.Assign [(.Name "pos" ⟨3,4,3,7⟩)] (.Constant (.int 0) 0 ⟨3,10,3,11⟩) ⟨3,4,3,11⟩),(.Assign [(.Name "escape" ⟨4,4,4,10⟩)] (.Constant (.bool false) 0 ⟨4,13,4,18⟩) ⟨4,4,4,18⟩),(.For yx PK tT [] ⟨5,4,12,27⟩),KJ]⟩
theorem F1:o8 P0 "_iter_escaped_chars" =some Rx:=by iterate 0 rfl'
noncomputable def gen:Nat->Bool->List Nat->List D
| _,false,[]=>[]
| p,true,[]=>[.tup [.int (p-1:Nat),.str [92]]]
| p,true,c::r=> .tup [.int p,.str [92,c]]::gen (p+1) false r
| p,false,c::r=>if c=92 then gen (p+1) true r else .tup [.int p,.str [c]]::gen (p+1) false r
theorem vQ:∀ (p:Nat) (x:List Nat),gen p false x=pQ p x
 | _,[]=>rfl
 | p,[c]=>by
  dsimp only [gen,pQ];split
  ·subst_vars;rfl
  ·rfl
 | p,c::d::r=>by
  show (if c=92 then _ else _)=(if c=92 then _ else _);by_cases hc:c=92
  ·rw [if_pos hc,if_pos hc];show .tup [.int (p+1:Nat),.str [92,d]]::gen (p+2) false r=_;rw [vQ (p+2) r]
  ·rw [if_neg hc,if_neg hc,vQ (p+1) (d::r)]
noncomputable def qc (L:Addr) (qn:Str) (a:Addr) (code:ag):Env:=m5 Kq L bC [] (qn++".<locals>.") (some a) code none bU
structure GI (L e it:Addr) (X:Str) (t:Tok) (i:Nat) (b:Bool) (h:Heap):Prop where
 ns:∃ m tp,h.Ns L m/\m "escape" =some (.bool b)/\m "pos" =some (.int ((i-1:Nat):Int) tp)
 en:∃ old,IsEnum h e it i old
 si:h.IsStrIter it (hW X) X t i
noncomputable def QJ (Y0:List Addr) (Qp s:ah):Prop:=∃ h tk,s={Qp with heap:=h,toks:=tk}/\∀ b o,b∉Y0->Qp.heap.get? b=some o->h.get? b=some o
theorem QJ.refl:∀ (Y0:List Addr) (s:ah),QJ Y0 s s:=by iterate 2 exact (⟨s.heap,s.toks,rfl,fun _ _ _ e=>e⟩)
theorem QJ.step:∀ {Y0:List Addr} {Qp s:ah} {h:Heap} {tk:Nat} (ahb:QJ Y0 Qp s) (k:∀ b o,b∉Y0->s.heap.get? b=some o->h.get? b=some o),QJ Y0 Qp {s with heap:=h,toks:=tk}:=by iterate 7 obtain ⟨h1,t1,rfl,k1⟩:=ahb;exact ⟨h,tk,rfl,fun b o hb e=>k b o hb (k1 b o hb e)⟩
noncomputable def KR (Y0:List Addr) (Qp s:ah) (v:ag) (d:D):Prop:=∃ a p cs t u,d= .tup [.int p,.str cs]/\v= .ref a/\a∉Y0/\Qp.heap.get? a=none/\cs.length<=2/\s.heap.get? a=some {cls:= .type "tuple",data:= .seq #[.int p t,.str ⟨cs.toArray⟩ u]}
noncomputable def pS:Bool->List Nat->Bool
| b,[]=>b
| true,_::r=>pS false r
| false,c::r=>pS (decide (c=92)) r
theorem xI:∀ (i:Nat) (b:Bool) (r:List Nat),(pS b r&&(gen i b r).length==0)=false:=by iterate 0
 intro i b r;induction r generalizing i b with
 | nil=>cases b<;>rfl
 | cons c r Qj=>
  cases b with
  | true=>dsimp only [gen];simp
  | false=>
   dsimp only [gen,pS];by_cases h:c=92
   ·rw [decide_eq_true h,if_pos h];exact Qj (i+1) true
   ·rw [if_neg h];simp
noncomputable def zL (_:Cx) (Y0:List Addr) (oT:Bool) (all:List D):m8:=fun m Qp v s kap=>
 (∃ d,all[all.length-1-m]? =some d/\KR Y0 Qp s v d)/\QJ Y0 Qp s/\((oT&&m==0)=false->∀ b∈Y0,∃ o,s.heap.get? b=some o)/\
  ∀ Sn:ah,((oT&&m==0)=false->∀ b∈Y0,∀ o,s.heap.get? b=some o->Sn.heap.get? b=some o)->kap (.send .none) Sn
noncomputable def zk (Y0:List Addr) (oT:Bool):GenEnd:=fun n Qp r Qg=>r= .ok (.ret .none)/\n=0/\QJ (if oT then [] else Y0) Qp Qg
section
variable {J:Cx} {A:bf} {s Qp:ah} {L e it a:Addr} {qn:Str} {code:ag} {X:Str} {t:Tok} {i:Nat} {b:Bool} {fs:List Frame}
theorem Cu {x:Str} {v:ag} {m} {p:Pos} {Q:ag->ah->Prop} {E:ag->ah->Prop} (hk:(qc L qn a code).kindOf x=some .local) (hx:mt x=true) (hn:s.heap.Ns L m) (hv:m x=some v) (h:Q v s):
  aD (aC P0 J.w) A (eval (.Name x p) (qc L qn a code)) Q E s:=
 bq (db (.inl ⟨hk,m,hn,hv⟩) rfl hx h) (oJ hx).1
theorem KQ:∀ {c:Nat},bB "\\" ++(⟨#[c]⟩:Str)=⟨[92,c].toArray⟩:=by iterate 1 rfl
theorem Kb:∀ (hh:A.handled=none) (it:Addr) (X:Str) (t:Tok),Draws P0 J.w A it [it] X.cps.size (fun i v=>∃ c u,X.cps[i]? =some c/\v= .str ⟨#[c]⟩ u) (fun i h=>h.IsStrIter it (hW X) X t i):=by iterate 4
 unfold hW;split
 ·exact Draws.strAscii hh it X t
 ·exact Draws.strWide hh it X t
end
section
variable {J:Cx} {A:bf} {s Qp:ah} {L e it a:Addr} {qn:Str} {code:ag} {X:Str} {t:Tok} {i:Nat} {b:Bool} {fs:List Frame} {C:Code} {all:List D} {oT:Bool}
theorem vS:∀ {K:Flow->Sem Fin} {ahb:ag->Sem Fin} {gd:Bool->Bool} {lv:List ag->List ag} {ex:Expr} {p1 p2 p3 p4:Pos} {m:Str->Option ag} {tp:Tok} {pv:Int} {cs:List Nat} {tl:List D} {pre:List D} (UA:nu fs=none) (hgd:gd false=false) (XS:fs.any kc=false) (hn:s.heap.Ns L m) (hp:m "pos" =some (.int pv tp)) (hs:QJ [L,e,it] Qp s) (hB:∀ b∈[L,e,it],b<s.heap.objs.size) (hY:(oT&&tl.length==0)=false->∀ b∈[L,e,it],∃ o,s.heap.get? b=some o) (Qy:all=pre++ .tup [.int pv,.str cs]::tl) (XU:cs.length<=2) (he:∀ (s1:ah) {Q:ag->ah->Prop},s1.heap=s.heap->(∀ u tk,Q (.str ⟨cs.toArray⟩ u) {s1 with toks:=tk})->aD (aC P0 J.w) (A.over C fs) (eval ex (qc L qn a code)) Q (fun _ _=>False) s1) (Rz:eL [ex] (qc L qn a code)=(false,eval ex (qc L qn a code))::eL [] (qc L qn a code)) (hk:∀ Sn,((oT&&tl.length==0)=false->∀ b∈[L,e,it],∀ o,s.heap.get? b=some o->Sn.heap.get? b=some o)->cq (aC P0 J.w) A (zk [L,e,it] oT) (zL J [L,e,it] oT all) tl.length Sn C (K .next) fs Sn),cq (aC P0 J.w) A (zk [L,e,it] oT) (zL J [L,e,it] oT all) (tl.length+1) Qp C ((exec (.Expr (.Yield (some (.Tuple [(.Name "pos" p1),ex] 0 p2)) p3) p4) (qc L qn a code)).wrap K ahb gd lv) fs s:=by iterate 28
 refine seg_Expr_Yield UA hgd XS ?_;refine qB (wpAny_Tuple (aR (Cu rfl rfl hn hp ?_) rfl));refine aR (he s rfl fun u tk=>?_) Rz;refine aZ ⟨by simp [dw],fun kap VR=>?_⟩;obtain ⟨h1,t1,rfl,k1⟩:=hs;have Rk:h1.get? h1.objs.size=none:=bn _;have h0:Qp.heap.get? h1.objs.size=none:=by cases q:Qp.heap.get? h1.objs.size with | none=>rfl | some o=>have:=k1 _ o (fun hm=>kE _ (hB _ hm)) q;rw [Rk] at this;cases this
 refine ⟨⟨_,?_,h1.objs.size,pv,cs,tp,u,rfl,rfl,fun hm=>kE _ (hB _ hm),h0,XU,ax _ rfl⟩,?_,fun hc b hb=>let ⟨o,q⟩:=hY hc b hb;⟨o,aF _ q⟩,fun Sn Vz=>?_⟩
 ·have:all.length-1-tl.length=pre.length:=by rw [Qy];simp
  rw [this,Qy];simp
 ·exact ⟨_,_,rfl,fun b o hb q=>aF _ (k1 b o hb q)⟩
 ·exact VR .none Sn (hk Sn (fun hc b hb o q=>Vz hc b hb o (aF _ q)))
theorem wS:∀ {x:Str} {v:ag} {m:Str->Option ag} {p pos:Pos} {ex:Expr} {B:bf} {Q:Flow->ah->Prop} (hk:(qc L qn a code).kindOf x=some .local) (hn:s.heap.Ns L m) (he:∀ {Q:ag->ah->Prop},(∀ tk,Q v {s with toks:=tk})->aD (aC P0 J.w) B (eval ex (qc L qn a code)) Q (fun _ _=>False) s) (hsw:jg ex (some (.Name x p)) pos.line (qc L qn a code)=pure false) (hQ:∀ h' tk,h'.Ns L (fun y=>if y=x then some v else m y)->bW L s.heap h'->Q .next {s with heap:=h',toks:=tk}),aD (aC P0 J.w) B (exec (.Assign [.Name x p] ex pos) (qc L qn a code)) Q (fun _ _=>False) s:=by iterate 13 exact (bj (he fun tk=>fh hk hn (fun h' h1 h2=>hQ h' _ h1 h2) rfl) hsw)
theorem HL:∀ {m:Str->Option ag} {c:Nat} {r:List Nat} {u tp:Tok} {old:ag} (UA:nu fs=none) (XS:fs.any kc=false) (Wq:e≠L) (Wm:it≠L) (hn:s.heap.Ns L m) (VW:m "escape" =some (.bool b)) (Ru:m "pos" =some (.int (i:Nat) tp)) (hch:m "ch" =some (.str ⟨#[c]⟩ u)) (hen:IsEnum s.heap e it ((i:Int)+1) old) (hsi:s.heap.IsStrIter it (hW X) X t (i+1)) (hs:QJ [L,e,it] Qp s) (Qy:∃ pre,all=pre++gen i b (c::r)) (hl:pS b (c::r)=oT) (Vc:∀ b' RR s',GI L e it X t (i+1) b' s'.heap->QJ [L,e,it] RR s'->(∃ pre,all=pre++gen (i+1) b' r)->pS b' r=oT->
   cq (aC P0 J.w) A (zk [L,e,it] oT) (zL J [L,e,it] oT all) (gen (i+1) b' r).length RR (.forLoop yx (.ref e) tT [] (qc L qn a code)) (.pure (.again (.forLoop yx (.ref e) tT [] (qc L qn a code)))) fs s'),cq (aC P0 J.w) A (zk [L,e,it] oT) (zL J [L,e,it] oT all) (gen i b (c::r)).length Qp (.forLoop yx (.ref e) tT [] (qc L qn a code)) ((gg tT (qc L qn a code)).wrap (FX yx (.ref e) tT [] (qc L qn a code)) (Jt (qc L qn a code)) id id) fs s:=by iterate 20
 have mk:∀ {h':Heap} {b':Bool} {m':Str->Option ag},h'.Ns L m'->m' "escape" =some (.bool b')->m' "pos" =some (.int (i:Nat) tp)->(∀ b∈[e,it],∀ o,s.heap.get? b=some o->h'.get? b=some o)->GI L e it X t (i+1) b' h':=by
  intro h' b' m' h1 h2 h3 k;refine ⟨⟨m',tp,h1,h2,by simpa using h3⟩,⟨old,?_⟩,?_⟩
  ·have:=k e (by simp) _ hen;exact_mod_cast this
  ·obtain ⟨o,e1,e2⟩:=hsi;exact ⟨o,k it (by simp) _ e1,e2⟩
 have nb:∀ {h h':Heap},bW L h h'->∀ b∈[e,it],∀ o,h.get? b=some o->h'.get? b=some o:=fun sb b hb o q=>by
  refine sb.extBut b o ?_ q;simp at hb;rcases hb with rfl | rfl
  ·exact Wq
  ·exact Wm
 obtain ⟨pre,Qy⟩:=Qy;have hY:∀ b∈[L,e,it],∃ o,s.heap.get? b=some o:=by
  intro b hb;simp at hb;rcases hb with rfl | rfl | rfl
  ·obtain ⟨o,_,_,z,_⟩:=hn;exact ⟨o,z⟩
  ·exact ⟨_,hen⟩
  ·obtain ⟨o,z,_⟩:=hsi;exact ⟨o,z⟩
 have hB:∀ b∈[L,e,it],b<s.heap.objs.size:=fun b hb=>(by obtain ⟨o,q⟩:=hY b hb;exact dK q)
 refine cE (Bp (dP (Cu rfl rfl hn VW (eU ?_)) rfl));cases b with
 | true=>
  rw [if_pos rfl];have YA:pS false r=oT:=hl;have Xm:=xI (i+1) false r;rw [YA] at Xm;have hg:gen i true (c::r)= .tup [.int (i:Nat),.str [92,c]]::gen (i+1) false r:=rfl;rw [hg] at Qy ⊢;rw [aI];refine cE (vS (pre:=pre) UA rfl XS hn Ru hs hB (fun _=>hY) Qy (by simp) (fun s1 Q h1 h2=>?_) rfl fun Sn k1=>?_)
  ·refine hH (cK ?_);refine Cu rfl rfl (by show s1.heap.Ns L m;rw [h1];exact hn) hch ?_;refine add_str (fun t' tk=>?_) ?_
   ·rw [KQ];exact h2 _ _
   ·show (1+1:Nat)<=dw;decide
  ·replace k1:=k1 Xm;have VP:Sn.heap.Ns L m:=Ns.keep hn (k1 L (by simp));refine cE (u1 (wS (v:= .bool false) rfl VP (fun hq=>gc (hq _)) rfl fun h' tk h1 sb=>?_));refine cC (cC ?_);exact Vc false Sn _ (mk h1 (by simp) (by rw [if_neg (by decide)];exact Ru) fun b hb o q=>nb sb b hb o (k1 b (av _ hb) o q)) ((QJ.refl _ _).step (fun b o hb q=>sb.extBut b o (fun z=>hb (by simp [z])) q)) ⟨pre++[.tup [.int (i:Nat),.str [92,c]]],by rw [Qy];simp⟩ YA
 | false=>
  rw [if_neg aJ];refine cE (Bp ?_);refine ma (Cu rfl rfl hn hch (cK (eq_str (eU ?_)))) rfl;have abt:(({cps:=#[c]}:Str)==bB "\\")=decide (c=92):=by rw [<-oj];show ([c]==[92])=_;by_cases h:c=92<;>simp [h]
  rw [abt];by_cases hc:c=92
  ·rw [if_pos (decide_eq_true hc)];subst hc;have hg:gen i false (92::r)=gen (i+1) true r:=rfl;rw [hg] at Qy ⊢;refine cE (u1 (wS (v:= .bool true) rfl (by exact hn) (fun hq=>gc (hq _)) rfl fun h' tk h1 sb=>?_));refine cC (cC (cC ?_));refine Vc true Qp _ (mk h1 (by simp) (by rw [if_neg (by decide)];exact Ru) fun b hb o q=>nb sb b hb o q) (hs.step (fun b o hb q=>sb.extBut b o (fun z=>hb (by simp [z])) q)) ⟨pre,Qy⟩ hl
  ·rw [if_neg (by simpa using hc)];have YA:pS false r=oT:=by
    have z:pS (decide (c=92)) r=oT:=hl;rwa [decide_eq_false hc] at z
   have Xm:=xI (i+1) false r;rw [YA] at Xm;have hg:gen i false (c::r)= .tup [.int (i:Nat),.str [c]]::gen (i+1) false r:=by show (if c=92 then _ else _)=_;rw [if_neg hc]
   rw [hg] at Qy ⊢;rw [aI];refine cE (vS (s:={s with toks:=s.toks+1}) (pre:=pre) UA rfl XS hn Ru (hs.step fun _ _ _ q=>q) hB (fun _=>hY) Qy (by simp) (fun s1 Q h1 h2=>?_) rfl fun Sn k1=>?_)
   ·refine Cu rfl rfl (by show s1.heap.Ns L m;rw [h1];exact hn) hch ?_;exact h2 u s1.toks
   ·replace k1:=k1 Xm;have VP:Sn.heap.Ns L m:=Ns.keep hn (k1 L (by simp));refine cC (cC (cC ?_));exact Vc false Sn _ (mk VP VW Ru fun b hb o q=>k1 b (av _ hb) o q) (QJ.refl _ _) ⟨pre++[.tup [.int (i:Nat),.str [c]]],by rw [Qy];simp⟩ YA
theorem GZ:∀ (hh:(A.over (.forLoop yx (.ref e) tT [] (qc L qn a code)) fs).handled=none) (UA:nu fs=none) (XS:fs.any kc=false) (Wq:e≠L) (Wm:it≠L) (ZK:e≠it) (Xi:∀ b RR s' m tp,s'.heap.Ns L m->m "escape" =some (.bool b)->m "pos" =some (.int ((X.cps.size-1:Nat):Int) tp)->QJ [L,e,it] RR s'->(∃ pre,all=pre++gen X.cps.size b [])->b=oT->e<s'.heap.objs.size->
   cq (aC P0 J.w) A (zk [L,e,it] oT) (zL J [L,e,it] oT all) (gen X.cps.size b []).length RR (.block [] (qc L qn a code)) (leafOf (.ok .next)) fs s'),∀ (k i:Nat) (b:Bool) (Qp s:ah),X.cps.size-i=k->i<=X.cps.size->GI L e it X t i b s.heap->QJ [L,e,it] Qp s->(∃ pre,all=pre++gen i b (X.cps.toList.drop i))->pS b (X.cps.toList.drop i)=oT->
   cq (aC P0 J.w) A (zk [L,e,it] oT) (zL J [L,e,it] oT all) (gen i b (X.cps.toList.drop i)).length Qp (.forLoop yx (.ref e) tT [] (qc L qn a code)) ((aC P0 J.w).den (.forLoop yx (.ref e) tT [] (qc L qn a code))) fs s:=by iterate 7
 intro k;induction k with
 | zero=>
  intro i b Qp s hk hi ahb hs Qy hl;obtain rfl:i=X.cps.size:=by omega
  rw [List.drop_of_length_le (by simp)] at Qy hl ⊢;obtain ⟨⟨m,tp,h1,h2,h3⟩,⟨old,h4⟩,h5⟩:=ahb;have D:=Kb (J:=J) (A:=(A.over (.forLoop yx (.ref e) tT [] (qc L qn a code)) fs).in1) hh it X t;refine wL (wpAny_pyNext_enum_endD D h4 h5 fun h' ext=>?_);refine yf (Xi b Qp _ m tp (Ns.keep h1 fun o q=>ext L o (dz Wm) q) h2 h3 (hs.step (fun b o hb q=>ext b o (fun z=>hb (by simp [z])) q)) Qy hl (dK (ext e _ ZK h4)))
 | succ k Qj=>
  intro i b Qp s hk hi ahb hs Qy hl;have RJ:i<X.cps.size:=by omega
  have hd:X.cps.toList.drop i=X.cps[i]::X.cps.toList.drop (i+1):=by rw [fY (by simpa using RJ)];simp
  rw [hd] at Qy hl ⊢;obtain ⟨⟨m,tp,h1,h2,h3⟩,⟨old,h4⟩,h5⟩:=ahb;have heH:e<s.heap.objs.size:=dK h4;have hiH:it<s.heap.objs.size:=by obtain ⟨o,q,_⟩:=h5;exact dK q
  have hLH:L<s.heap.objs.size:=h1.lt;have D:=Kb (J:=J) (A:=(A.over (.forLoop yx (.ref e) tT [] (qc L qn a code)) fs).in1) hh it X t;refine wL (wpAny_pyNext_enum_itemD D h4 h5 RJ ZK (by simpa using ZK) fun x UB tk hP heo Rz ht hz Ss=>?_);obtain ⟨c,u,hc,rfl⟩:=hP;obtain rfl:c=X.cps[i]:=by rw [cW RJ] at hc;cases hc;rfl
  refine wpAny_letOwnedTupleGo_enum heo fun Rt Vk RU=>?_;replace RU:bW e UB Rt:=RU;have Ye:Rt.IsTuple s.heap.objs.size #[.int i tk,.str ⟨#[X.cps[i]]⟩ u]:=⟨_,(RU.2 _ (iX heH)).trans ht,rfl,_,rfl⟩
  have X9:Rt.objs.size=s.heap.objs.size+1:=RU.1.trans hz;refine wpAny_assign_Tuple hh Ye rfl rfl fun RS U4=>?_;replace U4:fw Rt.objs.size Rt RS:=U4;have UY:∀ b o,b<s.heap.objs.size->Rt.get? b=some o->RS.get? b=some o:=fun b o hb x=>U4 b o (by rw [X9];exact fR (iT hb)) x;have Ym:RS.Ns L m:=((h1.at fun o x=>Ss _ o (dz Wq) (dz Wm) x).sameBut RU (dz Wq)).at fun o x=>UY _ o hLH x;show aD _ _ (do lH [.str ⟨#[X.cps[i]]⟩ u] (assign (.Name "pos" ⟨5,8,5,11⟩) (qc L qn a code) (.int i tk));do lH [] (assign (.Name "ch" ⟨5,13,5,15⟩) (qc L qn a code) (.str ⟨#[X.cps[i]]⟩ u));pure ()) _ _ _;refine ae (bu (cQ (fh rfl Ym (fun SY Yl U7=>?_) rfl)));replace U7:bW L RS SY:=U7;refine ae (bu (cQ (fh rfl Yl (fun SX Yk U6=>ay ?_) rfl)));replace U6:bW L SY SX:=U6;have up:∀ b o,b≠L->b<s.heap.objs.size->Rt.get? b=some o->SX.get? b=some o:=fun b o hb hl q=>U6.extBut b o hb (U7.extBut b o hb (UY b o hl q));have aa3:SX.IsStrIter it (hW X) X t (i+1):=by obtain ⟨o,q,r⟩:=Rz;exact ⟨o,up _ _ Wm hiH (RU.extBut _ _ (dz ZK) q),r⟩
  have abg:IsEnum SX e it ((i:Int)+1) _:=up _ _ Wq heH Vk;refine HL (m:=fun y=>if y="ch" then some (.str ⟨#[X.cps[i]]⟩ u) else if y="pos" then some (.int i tk) else m y) UA XS Wq Wm Yk (by rw [if_neg (by decide),if_neg (by decide)];exact h2) (by rw [if_neg (by decide),if_pos rfl]) (by rw [if_pos rfl]) abg aa3
   (hs.step fun b o hb q=>?_) Qy hl fun b' RR s' g1 g2 g3 g4=>seg_again rfl (Qj (i+1) b' RR s' (by omega) (by omega) g1 g2 g3 g4)
  ·have So:b≠L/\b≠e/\b≠it:=by simpa using hb
   exact up b o So.1 (dK q) (RU.extBut b o So.2.1 (Ss b o So.2.1 So.2.2 q))
end
section
variable {J:Cx} {A:bf} {s Qp:ah} {L a:Addr} {qn:Str} {code:ag} {X:Str} {t:Tok}
theorem Gr:∀ {m0:Str->Option ag} (fx:Fx J) (hh:A.handled=none) (hF:∀ a o,F0 J a=some o->s.heap.get? a=some o) (Xr:F0 J L=none) (hn:s.heap.Ns L m0) (ha:m0 "addr" =some (.str X t)),cq (aC P0 J.w) A (zk [L,s.heap.objs.size+1,s.heap.objs.size] (pS false X.cps.toList)) (zL J [L,s.heap.objs.size+1,s.heap.objs.size] (pS false X.cps.toList) (gen 0 false X.cps.toList)) (gen 0 false X.cps.toList).length s (.func Rx.body (qc L qn a code)) ((aC P0 J.w).den (.func Rx.body (qc L qn a code))) [] s:=by iterate 7
 have hLn:L<s.heap.objs.size:=hn.lt;obtain ⟨N,hN⟩:∃ N,N=s.heap.objs.size:=⟨_,rfl⟩
 rw [<-hN] at hLn ⊢;refine seg_func ?_;show cq _ A _ _ _ s _ ((gg Rx.body _).wrap _ _ _ _) [] s;refine cE (u1 (wS (v:= .int 0 s.toks) rfl hn (fun hq=>bO (hq _)) rfl fun h1 tk1 n1 b1=>?_));refine cE (u1 (wS (v:= .bool false) rfl n1 (fun hq=>gc (hq _)) rfl fun h2 Zk n2 b2=>?_));replace b1:bW L s.heap h1:=b1;replace b2:bW L h1 h2:=b2;have z2:h2.objs.size=N:=by rw [b2.1,b1.1,hN]
 have nL:∀ b o,F0 J b=some o->h2.get? b=some o:=fun b o q=>by
  have:b≠L:=fun z=>by rw [z,Xr] at q;cases q
  exact b2.extBut b o this (b1.extBut b o this (hF b o q))
 refine cE (Ik (fun _=>rfl) ?_);have cf:=uo fx (f:="enumerate") (by decide);have ld:∀ {B:bf} {Q:ag->ah->Prop} {E:ag->ah->Prop} {s1:ah},s1.heap=h2->Q (.type (bB "enumerate").toString) s1->aD (aC P0 J.w) B (loadGlobal (qc L qn a code) "enumerate") Q E s1:=by
  intro B Q E s1 e hq;obtain ⟨⟨mg,mb,h1,h2,h3 | ⟨h3,h4⟩⟩,_⟩:=cf
  ·exact ke (h1.ns (by rw [e];exact nL)) h3 hq
  ·exact j1 (h1.ns (by rw [e];exact nL)) h3 (h2.ns (by rw [e];exact nL)) h4 hq
 refine bH (bk rfl rfl (ld rfl ?_) (by decide));refine pa (first:=[]) cf rfl ?_;refine aR (Cu rfl rfl n2 (by rw [if_neg (by decide),if_neg (by decide)];exact ha) ?_) rfl;refine aZ ⟨nL,?_⟩;refine call_enumerate_str fun h3 e3 i3 z3 k3=>?_;replace z3:h3.objs.size=h2.objs.size+2:=z3;replace e3:IsEnum h3 (h2.objs.size+1) h2.objs.size 0 .none:=e3;replace i3:h3.IsStrIter h2.objs.size (hW X) X t 0:=i3;replace k3:∀ b o,h2.get? b=some o->h3.get? b=some o:=k3;rw [z2] at e3 i3 z3;show aD _ _ (kz (.ref (h2.objs.size+1))) _ _ _;rw [z2];refine wpAny_pyIter_enum e3 fun p=>?_;have Wq:N+1≠L:=iX (iT hLn);have Wm:N≠L:=iX hLn;have n3:h3.Ns L _:=Ns.keep n2 (k3 L);have since:QJ [L,N+1,N] s {s with heap:=h3,toks:=Zk}:=⟨h3,Zk,rfl,fun b o hb q=>by have:b≠L:=fun z=>hb (by simp [z]);exact k3 b o (b2.extBut b o this (b1.extBut b o this q))⟩
 refine GZ (all:=gen 0 false X.cps.toList) (by exact hh) rfl rfl Wq Wm (mB N) (fun b RR s' m tp VB VW Ru hs Qy hbl hes=>?_) (X.cps.size-0) 0 false s _ rfl (jL _) ⟨⟨_,s.toks,n3,by rw [if_pos rfl],by rw [if_neg (by decide),if_pos rfl];rfl⟩,⟨_,e3⟩,i3⟩ since ⟨[],rfl⟩ rfl;refine seg_leaf (.ok .next) ?_;show cq _ A _ _ _ RR _ (Sem.wrap _ _ _ _ (gg [KJ] (qc L qn a code))) [] s';refine cE (Bp (dP (Cu rfl rfl VB VW (eU ?_)) rfl));obtain ⟨pre,Qy⟩:=Qy;cases b with
 | false=>rw [if_neg aJ];refine cC (cC ?_);exact seg_end (.ok (.ret .none)) ⟨rfl,rfl,by rw [<-hbl,if_neg aJ];exact hs⟩
 | true=>
  rw [if_pos rfl];refine cE (vS (cs:=[92]) (tl:=[]) (pre:=pre) rfl rfl rfl VB Ru hs (fun b hb=>?_) (fun hc=>by rw [<-hbl] at hc;cases hc) Qy (by simp) (fun s1 Q h1 h2=>cK (h2 _ _)) rfl fun Sn k1=>?_)
  ·simp at hb;rcases hb with rfl | rfl | rfl
   ·exact VB.lt
   ·exact hes
   ·exact Nat.lt_of_succ_lt hes
  ·refine cC (cC ?_);exact seg_end (.ok (.ret .none)) ⟨rfl,rfl,QJ.refl _ _⟩
end
section
variable {prog:bY} {w:jl} {A:bf} {E:ag->ah->Prop} {s:ah}
theorem Ag:∀ {a:Addr} {g n:Nat} {gs:di} {P:Nat->ah->ah->Prop} {Y:m8} {Q:Option ag->ah->Prop} (hh:A.handled=none) (hl:s.heap.NoLimit) (RI:A.depth<cw) (hg:s.heap.IsGen a g) (Xd:s.gens[g]? =some gs) (XR:gs.Goes (aC prog w) A.in1 (fun n Qp r Qg=>r= .ok (.ret .none)/\P n Qp Qg) Y n (.send .none) (s.setGen g .running)) (hY:∀ v Qg V2,V2.bare=true->Y (n-1) (s.setGen g .running) v Qg (fun r' Sn=>match n with
    | 0=>False
    | m+1=>V2.Goes (aC prog w) A.in1 (fun n Qp r Qg=>r= .ok (.ret .none)/\P n Qp Qg) Y m r' Sn)->Q (some v) (Qg.setGen g V2)) (hP:∀ Qg,P n (s.setGen g .running) Qg->∀ h',(∀ b o,Qg.heap.get? b=some o->h'.get? b=some o)->Q none {Qg.setGen g .finished with heap:=h'}),aD (aC prog w) A (eF (.ref a)) Q E s:=by iterate 15
 unfold eF;refine ae (fB (dv (name:=bB "__next__") hg.typeIs slot_gen_next (eh slot_gen_next hg.typeIs entry_gen_next ?_ (args_gen_next _))));show aD _ A.in1 (ic (.ref a) (.send .none)) _ _ s;unfold ic;refine ae (bu (wpAny_genNumber hg (ae (wpAny_genState Xd ?_))));cases gs<;>first
  | exact XR.elim
  | (refine ae (wpAny_roomToWake hl RI ?_);show aD _ A.in1 (.resume g (.send .none) [] _) _ _ s;refine wpAny_resumeQ Xd XR (fun x Qg hx=>?_) (fun v Qg V2 hb hv=>ay ⟨v,rfl,ay (hY v Qg V2 hb hv)⟩);obtain ⟨rfl,hp⟩:=hx;show aD _ A.in1 (newExc (.type "StopIteration") [] >>=_) _ _ _;refine ae ?_;simp only [newExc,newTuple];refine ae (dj ?_ (by size_fits));refine ae (m:=iM _ _) (gb (a:=iI) (by first | rfl | (simp only [iM];rfl)) ?_);refine dj ?_ (by size_fits);unfold raiseNew;refine ae (ae (wpAny_handled ?_));rw [show A.in1.handled=none from hh];refine wpAny_throw (ae (nM (T:="StopIteration") (b:=true) ⟨_,ax _ rfl,rfl⟩ isSubtype_stop ?_));exact ay (hP Qg hp _ fun b o hb=>aF _ (aF _ hb)))
end
section
variable {J:Cx} {A:bf} {W W0 W':Wd} {s s0 s':ah} {sc:aX} {st st':St} {env:Env} {ow UX:List Addr} {n:Nat} {B:Bs} {X Y:List Addr}
theorem Qk.Y6:∀ {h':Heap} {QH:Array di} {tk:Nat} (t:Qk J X W0 s0 W s) (RT:Qn J W0 s0) (hY:∀ b∈Y,s0.heap.get? b=none/\W.F b=none/\b∉J.T/\b∉W.QF.flatten) (k:∀ b o,b∉Y->s.heap.get? b=some o->h'.get? b=some o) (hg:∀ (i:Nat) (g:di),s0.gens[i]? =some g->QH[i]? =some g) (hb:ij QH),Qk J X W0 s0 W {s with heap:=h',gens:=QH,toks:=tk}:=by iterate 9
 exact {
  ok:={
   sub:=fun a o e=>k a o (fun q=>by rw [(hY a q).2.1] at e;cases e) (t.ok.sub a o e)
   base:=t.ok.base
   Ry:=t.ok.Ry
   low:=fun a o e=>by obtain ⟨o1,e1⟩:=RT.low a o e;obtain ⟨o2,e2⟩:=t.there a o1 e1;exact ⟨o2,k a o2 (fun q=>by rw [(hY a q).1] at e1;cases e1) e2⟩
   tab:=fun T hT=>(t.ok.tab T hT).keep (PM.le.refl _) fun o e=>k _ o (fun q=>(hY _ q).2.2.1 (cM hT)) e
   Q9:=t.ok.Q9
   Rh:=t.ok.Rh
   obj:=fun i mo a fp h1 h2 h3=>(t.ok.obj i mo a fp h1 h2 h3).keep (PM.le.refl _) (Pre.refl _) fun b hb o e=>k b o (fun q=>(hY b q).2.2.2 (qK h3 hb)) e
   nodup:=t.ok.nodup
   RD:=fun a ha=>⟨(t.ok.RD a ha).1,(t.ok.RD a ha).2.1,(by obtain ⟨o,e⟩:=(t.ok.RD a ha).2.2;exact ⟨o,k a o (fun q=>(hY a q).2.2.2 ha) e⟩)⟩
   bare:=hb
   os:=t.ok.os}
  le:=t.le
  fresh:=t.fresh
  keep:=fun a o h1 h2 h3 e=>k a o (fun q=>by rw [(hY a q).1] at e;cases e) (t.keep a o h1 h2 h3 e)
  there:=fun a o e=>by obtain ⟨o2,e2⟩:=t.there a o e;exact ⟨o2,k a o2 (fun q=>by rw [(hY a q).1] at e;cases e) e2⟩
  as:=t.as
  QF:=t.QF
  gens:=hg}
theorem Run.gen:∀ (r:Run J W0 s0 B sc env st ow W s) (tr:Qk J [] W0 s0 W' s') (le:PM.le W.F W'.F) (S1:∀ a o,W'.F a=some o->W.F a=some o\/s.heap.get? a=none) (has:W'.as=W.as) (Uo:W'.QF=W.QF) (hY:∀ b∈Y,B.s.heap.get? b=none/\b∉am env++ow) (k:∀ b o,b∉Y->s.heap.get? b=some o->s'.heap.get? b=some o) (hg:∀ (i:Nat) (g:di),B.s.gens[i]? =some g->s'.gens[i]? =some g),Run J W0 s0 B sc env st ow W' s':=by iterate 9
 exact {
  RT:=r.RT
  tr:=tr
  R:=r.R.U2 (fun a ha o e=>k a o (fun q=>(hY a q).2 ha) e) le (by rw [has];exact Pre.refl _) S1 fun a ha=> .inl (by rw [Uo] at ha;exact ha)
  fr:=r.fr
  S8:=r.S8
  le:=r.le.trans le
  as:=by rw [has];exact r.as
  gens:=hg
  there a o e:=by obtain ⟨o1,e1⟩:=r.there a o e;exact ⟨o1,k a o1 (fun q=>by rw [(hY a q).1] at e;cases e) e1⟩
  keep a h1 h2 h3:=by
   obtain ⟨k1,k2⟩:=r.keep a h1 h2 h3;have ne:a∉Y:=fun q=>by obtain ⟨_,_,_,o,e⟩:=h1;rw [(hY a q).1] at e;cases e
   obtain ⟨z1,z2,z3,o,z4⟩:=k1;refine ⟨⟨?_,z2,by rw [Uo];exact z3,o,k a o ne z4⟩,fun o e=>k a o ne (k2 o e)⟩;cases e:W'.F a with
   | none=>rfl
   | some o'=>
    rcases S1 a o' e with q | q
    ·rw [z1] at q;cases q
    ·rw [z4] at q;cases q
  S7:=r.S7}
end
noncomputable def UO (J:Cx) (A:bf) (I:Addr) (gi:Nat) (L:Addr) (ds:List D) (s:ah) (Y:List Addr):Prop:=
 s.heap.IsGen I gi/\
 ((∃ qn a code X t m0,s.gens[gi]? =some (.fresh (.func Rx.body (qc L qn a code)))/\Y=[L]/\s.heap.Ns L m0/\m0 "addr" =some (.str X t)/\ds=gen 0 false X.cps.toList)\/
  (∃ gs Y0 oT all,s.gens[gi]? =some gs/\Y=(if oT&&ds.length==0 then [] else Y0)/\ds.length<=all.length/\all.drop (all.length-ds.length)=ds/\
   ∀ Sn:ah,(∀ b∈Y,∀ o,s.heap.get? b=some o->Sn.heap.get? b=some o)->gs.Goes (aC P0 J.w) A.in1 (zk Y0 oT) (zL J Y0 oT all) ds.length (.send .none) Sn))
section
variable {J:Cx} {A:bf} {W:Wd} {s s':ah} {I L:Addr} {gi:Nat} {ds:List D} {Y:List Addr}
theorem UO.keep:∀ (ahb:UO J A I gi L ds s Y) (k:∀ b∈I::Y,∀ o,s.heap.get? b=some o->s'.heap.get? b=some o) (kg:∀ g,s.gens[gi]? =some g->s'.gens[gi]? =some g),UO J A I gi L ds s' Y:=by iterate 3
 obtain ⟨⟨o,nm,qn,ho,r⟩,ahb⟩:=ahb;refine ⟨⟨o,nm,qn,k I (by simp) _ ho,r⟩,?_⟩;rcases ahb with ⟨qn,a,code,X,t,m0,h1,rfl,h3,h4⟩ | ⟨gs,Y0,oT,all,h1,h2,h3,h4,h5⟩
 ·exact .inl ⟨qn,a,code,X,t,m0,kg _ h1,rfl,Ns.keep h3 (k L (by simp)),h4⟩
 ·exact .inr ⟨gs,Y0,oT,all,kg _ h1,h2,h3,h4,fun Sn h6=>h5 Sn fun b hb o e=>h6 b hb o (k b (av _ hb) o e)⟩
theorem UO.Y5:∀ (fx:Fx J) (hh:A.handled=none) (ahb:UO J A I gi L ds s Y) (hF:∀ a o,F0 J a=some o->s.heap.get? a=some o) (Xr:∀ b∈Y,F0 J b=none),s.heap.IsGen I gi/\∃ gs Y0 oT all,s.gens[gi]? =some gs/\(∀ b∈(if oT&&ds.length==0 then [] else Y0),b∈Y\/s.heap.get? b=none)/\ds.length<=all.length/\all.drop (all.length-ds.length)=ds/\
   gs.Goes (aC P0 J.w) A.in1 (zk Y0 oT) (zL J Y0 oT all) ds.length (.send .none) (s.setGen gi .running):=by iterate 5
 obtain ⟨hg,ahb⟩:=ahb;refine ⟨hg,?_⟩;rcases ahb with ⟨qn,a,code,X,t,m0,h1,rfl,h3,h4,rfl⟩ | ⟨gs,Y0,oT,all,h1,h2,h3,h4,h5⟩
 ·refine ⟨_,[L,s.heap.objs.size+1,s.heap.objs.size],pS false X.cps.toList,gen 0 false X.cps.toList,h1,fun b hb=>?_,bN _,by simp,rfl,?_⟩
  ·rw [xI,if_neg aJ] at hb;simp at hb;rcases hb with rfl | rfl | rfl
   ·exact .inl (by simp)
   ·refine .inr ?_;cases q:s.heap.get? (s.heap.objs.size+1) with | none=>rfl | some o=>exact absurd (dK q) (mC (bV _))
   ·exact .inr (bn _)
  ·exact Gr (s:=s.setGen gi .running) fx hh hF (Xr L (by simp)) h3 h4
 ·exact ⟨gs,Y0,oT,all,h1,fun b hb=> .inl (h2▸hb),h3,h4,h5 _ fun _ _ _ e=>e⟩
theorem rM:∀ {g:di} (hb:ij s.gens) (h:g.bare=true),ij (s.setGen gi g).gens:=by iterate 3
 exact (fun y hy=>by
 obtain ⟨i,hi,rfl⟩:=Array.mem_iff_getElem.mp hy;have e:(s.setGen gi g).gens[i]? =some (s.setGen gi g).gens[i]:=cW hi;by_cases q:i=gi
 ·subst q;have RJ:i<s.gens.size:=by simpa [Shared.setGen] using hi
  have:(s.setGen i g).gens[i]? =some g:=mM (cW RJ);rw [this] at e;exact (bh e)▸h
 ·rw [(fz s gi g).2 i q] at e;exact hb _ (Array.mem_of_getElem? e))
theorem EB:∀ {d:D} {Q:Option ag->ah->Prop} {E:ag->ah->Prop} (fx:Fx J) (hA:A.handled=none) (RI:A.depth<cw) (ahb:UO J A I gi L (d::ds) s Y) (hF:∀ a o,F0 J a=some o->s.heap.get? a=some o) (Xr:∀ b∈Y,F0 J b=none) (hb:ij s.gens) (hI:I∉Y) (hIs:∃ o,s.heap.get? I=some o) (hQ:∀ T p cs t u h' QH tk Y',d= .tup [.int p,.str cs]->s.heap.get? T=none->cs.length<=2->h'.get? T=some {cls:= .type "tuple",data:= .seq #[.int p t,.str ⟨cs.toArray⟩ u]}->
   (∀ b o,b∉Y->s.heap.get? b=some o->h'.get? b=some o)->ij QH->(∀ i,i≠gi->QH[i]? =s.gens[i]?)->(∀ b∈Y',(b∈Y\/s.heap.get? b=none)/\b≠T/\∃ o,h'.get? b=some o)->
   UO J A I gi L ds {s with heap:=h',gens:=QH,toks:=tk} Y'->Q (some (.ref T)) {s with heap:=h',gens:=QH,toks:=tk}),aD (aC P0 J.w) A (eF (.ref I)) Q E s:=by iterate 13
 obtain ⟨hg,gs,Y0,oT,all,Xd,hY,hlen,ZN,XR⟩:=ahb.Y5 fx hA hF Xr;have hc:(oT&&(d::ds).length==0)=false:=by simp
 rw [hc,if_neg aJ] at hY;have Yp:s.heap.NoLimit:=by obtain ⟨mc,q1,q2⟩:=fx.SD;exact ⟨mc,q1.ns hF,q2⟩
 refine Ag (P:=fun n Qp Qg=>n=0/\QJ (if oT then [] else Y0) Qp Qg) hA Yp RI hg Xd XR (fun v Qg V2 Up hy=>?_) (fun Qg hp=>absurd hp.1 (by simp));obtain ⟨⟨d',Vm,T,p,cs,t,u,rfl,rfl,hT0,hTn,XU,abx⟩,⟨h1,tk,rfl,k1⟩,Vy,VR⟩:=hy;have e1:(d::ds).length-1=ds.length:=by simp
 rw [e1] at Vm Vy VR;have hdd:all[all.length-1-ds.length]? =some d:=by have:=congrArg (·[0]?) ZN;simp only [fJ,List.getElem?_cons_zero,aI] at this;rw [<-this];congr 1;omega
 rw [hdd] at Vm;cases Vm;have hk:∀ b o,b∉Y->s.heap.get? b=some o->h1.get? b=some o:=fun b o hb e=>k1 b o (fun q=>by
  rcases hY b q with z | z
  ·exact hb z
  ·rw [z] at e;cases e) e
 have abi:all.drop (all.length-ds.length)=ds:=by
  have:=congrArg (·.drop 1) ZN;simp only [mY,List.drop_succ_cons,j0,aI] at this;have h2:all.length-ds.length=all.length-(ds.length+1)+1:=by simp only [aI] at hlen;omega
  rw [h2];exact this
 have aa5:({s.setGen gi .running with heap:=h1,toks:=tk}:ah).gens[gi]? =some .running:=mM Xd;refine hQ T p cs t u h1 _ tk (if oT&&ds.length==0 then [] else Y0) rfl hTn XU abx hk (rM (s:={s.setGen gi .running with heap:=h1,toks:=tk}) (rM hb rfl) Up) (fun i hi=>?_) (fun b hb=>?_) ⟨?_,.inr ⟨V2,Y0,oT,all,?_,rfl,by simp only [aI] at hlen;omega,abi,fun Sn h6=>VR Sn fun hc b hb o e=>h6 b (by rw [hc,if_neg aJ];exact hb) o e⟩⟩
 ·exact ((fz ({s.setGen gi .running with heap:=h1,toks:=tk}:ah) gi V2).2 i hi).trans ((fz s gi .running).2 i hi)
 ·cases hl:(oT&&ds.length==0) with | true=>rw [hl,if_pos rfl] at hb;cases hb | false=>rw [hl,if_neg aJ] at hb;exact ⟨hY b hb,fun q=>hT0 (q▸hb),Vy hl b hb⟩
 ·obtain ⟨o,nm,qn,ho,r⟩:=hg;exact ⟨o,nm,qn,hk I o hI ho,r⟩
 ·exact mM aa5
theorem ER:∀ {Q:Option ag->ah->Prop} {E:ag->ah->Prop} (fx:Fx J) (hA:A.handled=none) (RI:A.depth<cw) (ahb:UO J A I gi L [] s Y) (hF:∀ a o,F0 J a=some o->s.heap.get? a=some o) (Xr:∀ b∈Y,F0 J b=none) (hb:ij s.gens) (hQ:∀ h' QH tk,(∀ b o,b∉Y->s.heap.get? b=some o->h'.get? b=some o)->ij QH->(∀ i,i≠gi->QH[i]? =s.gens[i]?)->Q none {s with heap:=h',gens:=QH,toks:=tk}),aD (aC P0 J.w) A (eF (.ref I)) Q E s:=by iterate 10
 obtain ⟨hg,gs,Y0,oT,all,Xd,hY,hlen,ZN,XR⟩:=ahb.Y5 fx hA hF Xr;have Yp:s.heap.NoLimit:=by obtain ⟨mc,q1,q2⟩:=fx.SD;exact ⟨mc,q1.ns hF,q2⟩
 refine Ag (P:=fun n Qp Qg=>n=0/\QJ (if oT then [] else Y0) Qp Qg) hA Yp RI hg Xd XR (fun v Qg V2 Up hy=>(hy.2.2.2 Qg fun _ _ _ _ e=>e).elim) (fun Qg hp h' hk=>?_)
 ·obtain ⟨_,h1,tk,rfl,k1⟩:=hp;have ZP:∀ b∈(if oT then [] else Y0),b∈Y\/s.heap.get? b=none:=fun b hb=>hY b (by cases oT<;>simpa using hb);refine hQ h' _ tk (fun b o hb e=>hk b o (k1 b o (fun q=>?_) e)) (rM (s:={s.setGen gi .running with heap:=h1,toks:=tk}) (rM hb rfl) rfl) (fun i hi=>?_)
  ·rcases ZP b q with z | z
   ·exact hb z
   ·rw [z] at e;cases e
  ·exact ((fz ({s.setGen gi .running with heap:=h1,toks:=tk}:ah) gi .finished).2 i hi).trans ((fz s gi .running).2 i hi)
end
section
variable {J:Cx} {A:bf} {W W0 W':Wd} {s s0 s':ah} {sc:aX} {st st':St} {env:Env} {ow UX:List Addr} {n:Nat} {B:Bs} {X Y:List Addr}
theorem uI:∀ {gens:Array di} {i:Nat} {g:di} (h:gens[i]? =some g),i<gens.size:=by iterate 4 exact ((Array.getElem?_eq_some_iff.mp h).1)
noncomputable def KS (J:Cx) (W:Wd) (s s0:ah) (B:Bs) (env:Env) (ow:List Addr) (b:Addr):Prop:=Apart J W s.heap b/\b∉am env/\b∉ow/\B.s.heap.get? b=none/\s0.heap.get? b=none
theorem JU:∀ {I L:Addr} {gi:Nat} {t:Expr} {ds:List D} {b:List Stmt} {g:G} {fl:Fl} {g':G} (fx:Fx J) (ok:TJ J n) (h:wr P0 (n+1) sc st t ds b g=some (fl,st',g')) (hg:W.H=g) (r:Run J W0 s0 B sc env st ow W s) (QY:Qs (n+1) A) (Rz:UO J A I gi L ds s Y) (hY:∀ b∈I::Y,KS J W s s0 B env ow b) (XW:I∉Y) (hB:B.s.gens.size<=gi) (h0:s0.gens.size<=gi),bQ (aC P0 J.w) A (.forLoop t (.ref I) b [] env) (fun r s'=>∃ f,r= .ok f/\qp J W0 s0 B sc env st' g' fl f s') s:=by iterate 20
 have hA:Qs n A:=QY.le (bV n);have RI:A.depth<cw:=by have:=hA.2.1;omega
 replace h:=bi h;obtain ⟨⟨X2,gF,rr⟩,h,TY⟩:=h;cases TY;replace h:iterLoop (MG (fs P0 n) sc t b) ds st g=some (X2,gF,rr):=h;generalize SH:MG (fs P0 n) sc t b=step at h;refine mQ (fun k s'=>∃ W' Ra QU g1 SU Y,k=Ra.length+1/\iterLoop step Ra QU g1=some (X2,gF,rr)/\Run J W0 s0 B sc env QU SU W' s'/\W'.H=g1/\UO J A I gi L Ra s' Y/\(∀ b∈I::Y,KS J W' s' s0 B env SU b)/\I∉Y) ?_ (ds.length+1) ⟨W,ds,st,g,ow,Y,rfl,h,r,hg,Rz,hY,XW⟩;clear hY XW Rz r hg h;rintro k s' ⟨W',Ra,QU,g1,SU,Y,rfl,h,r,hg,Rz,hY,XW⟩;have V1:∀ b∈Y,F0 J b=none:=fun b hb=>by cases e:F0 J b with | none=>rfl | some o=>have:=r.ok.le0 b o e;rw [(hY b (av _ hb)).1.1] at this;cases this
 have VC:∀ b∈I::Y,b∉am env++SU:=fun b hb hm=>by
  rcases bF.mp hm with q | q
  ·exact (hY b hb).2.1 q
  ·exact (hY b hb).2.2.1 q
 have hgB:∀ {QH:Array di},(∀ i,i≠gi->QH[i]? =s'.gens[i]?)->(∀ (i:Nat) (g:di),B.s.gens[i]? =some g->QH[i]? =some g)/\∀ (i:Nat) (g:di),s0.gens[i]? =some g->QH[i]? =some g:=fun hk=>by
  refine ⟨fun i g e=>?_,fun i g e=>?_⟩
  ·rw [hk i (fR (dB (uI e) hB))];exact r.gens i g e
  ·rw [hk i (fR (dB (uI e) h0))];exact r.tr.gens i g e
 have trG:∀ {h':Heap} {QH:Array di} {tk:Nat},(∀ b o,b∉Y->s'.heap.get? b=some o->h'.get? b=some o)->ij QH->(∀ i,i≠gi->QH[i]? =s'.gens[i]?)->Qk J [] W0 s0 W' {s' with heap:=h',gens:=QH,toks:=tk}:=fun k hb hk=>r.tr.Y6 (Y:=Y) r.RT (fun b hb=>let z:=hY b (av _ hb);⟨z.2.2.2.2,z.1.1,z.1.2.1,z.1.2.2.1⟩) k (hgB hk).2 hb;have hYB:∀ b∈Y,B.s.heap.get? b=none/\b∉am env++SU:=fun b hb=>⟨(hY b (av _ hb)).2.2.2.1,VC b (av _ hb)⟩
 cases Ra with
 | nil=>cases h;refine ER fx hA.1 RI Rz r.ok.Qw V1 r.ok.bare fun h' QH tk kk YN hk=>?_;have r1:=r.gen (trG (tk:=tk) kk YN hk) (PM.le.refl _) (fun _ _ e=> .inl e) rfl rfl hYB kk (hgB hk).1;exact aW ⟨_,rfl,W',hg,rfl,SU,r1⟩
 | cons d QD=>
  have body:∀ RY g2 x,step d QU g1=some (RY,g2,x)->∃ ρ RP,pX sc QU t=true/\bv t d QU.ρ=some ρ/\ceSs P0 n sc (QU.withRho ρ) b g1=some (RP,RY,g2)/\x=rK RP:=fun RY g2 x e=>by cases SH;obtain ⟨u,e1,ρ,e2,⟨RP,st3,g3⟩,e3,e4⟩:=vq e;cases e4;exact ⟨ρ,RP,dl e1,e2,e3,rfl⟩
  refine EB fx hA.1 RI Rz r.ok.Qw V1 r.ok.bare XW (hY I (by simp)).1.2.2.2 fun T p cs tt u h' QH tk Y' hd hT XU Qz kk YN hk ZP VM=>?_;have nT:=r.ok.QL hT;have leT:=xg (o:={cls:= .type "tuple",data:= .seq #[.int p tt,.str ⟨cs.toArray⟩ u]}) nT.1;have fT:∀ a o,(W'.Q3 T {cls:= .type "tuple",data:= .seq #[.int p tt,.str ⟨cs.toArray⟩ u]}).F a=some o->W'.F a=some o\/s'.heap.get? a=none:=fun a o e=>by
   by_cases q:a=T
   ·exact .inr (q▸hT)
   ·refine .inl ?_;have e:(if a=T then some _ else W'.F a)=some o:=e;rwa [if_neg q] at e
  have tr1:=Qk.Q3 (trG (tk:=tk) kk YN hk) Qz (r.tr.Qt hT) nT.2.1 nT.2.2;have r1:=r.gen tr1 leT fT rfl rfl hYB kk (hgB hk).1;have rv:Rd J (W'.Q3 T {cls:= .type "tuple",data:= .seq #[.int p tt,.str ⟨cs.toArray⟩ u]}).F W'.as d (.ref T):=by subst hd;refine ⟨by simp [lim],T,[.int p tt,.str ⟨cs.toArray⟩ u],rfl,Si.of (n:=0) (oN ..),?_⟩;exact ⟨_,_,rfl,⟨tt,rfl⟩,_,_,rfl,⟨by unfold lim;omega,u,rfl⟩,rfl⟩
  have hTI:T≠I:=fun q=>by obtain ⟨o,e⟩:=(hY I (by simp)).1.2.2.2;rw [<-q,hT] at e;cases e
  generalize YR:W'.Q3 T {cls:= .type "tuple",data:= .seq #[.int p tt,.str ⟨cs.toArray⟩ u]}=W1 at tr1 r1 rv leT fT;have Q5:W1.H=g1:=by rw [<-YR];exact hg
  have YI:W1.QF=W'.QF:=by rw [<-YR];rfl
  have abv:W1.as=W'.as:=by rw [<-YR];rfl
  have VI:∀ b∈I::Y',KS J W1 {s' with heap:=h',gens:=QH,toks:=tk} s0 B env SU b:=by
   have old:∀ b,b≠T->KS J W' s' s0 B env SU b->(∃ o,h'.get? b=some o)->KS J W1 {s' with heap:=h',gens:=QH,toks:=tk} s0 B env SU b:=fun b hbT z ho=>by refine ⟨⟨?_,z.1.2.1,by rw [YI];exact z.1.2.2.1,ho⟩,z.2⟩;rw [<-YR];show (if b=T then some _ else W'.F b)=none;rw [if_neg hbT];exact z.1.1
   intro b hb;rcases aq.mp hb with rfl | hb
   ·refine old _ (dz hTI) (hY _ (by simp)) ?_;obtain ⟨o,e⟩:=(hY b (by simp)).1.2.2.2;exact ⟨o,kk b o XW e⟩
   ·obtain ⟨z1,z2,z3⟩:=ZP b hb;rcases z1 with z1 | z1
    ·exact old b z2 (hY b (av _ z1)) z3
    ·have nn:=r.ok.QL z1;have ff:=r.QW z1;refine ⟨⟨?_,nn.2.1,by rw [YI];exact nn.2.2,z3⟩,fun hm=>ff (aE _ hm),fun hm=>ff (cU _ hm),r.RH z1,r.tr.Qt z1⟩;rw [<-YR];show (if b=T then some _ else W'.F b)=none;rw [if_neg z2];exact nn.1
  have abE:I∉Y':=fun hm=>by
   rcases (ZP I hm).1 with z | z
   ·exact XW z
   ·obtain ⟨o,e⟩:=(hY I (by simp)).1.2.2.2;rw [z] at e;cases e
  obtain ⟨oI,nm,qn,hoI,hcI,hdI,_⟩:=VM.1;refine py hoI hcI hdI (by decide) ?_;have main:∀ RY g2 x,step d QU g1=some (RY,g2,x)->aD (aC P0 J.w) A (assign t env (.ref T)) (fun _ Q4=>aD (aC P0 J.w) A (gg b env) (fun f QK=>∃ RP,x=rK RP/\∃ W3,W3.H=g2/\match RP with
     | .next=>f= .next/\∃ Uv,Run J W0 s0 B sc env RY Uv W3 QK/\UO J A I gi L QD QK Y'/\(∀ b∈I::Y',KS J W3 QK s0 B env Uv b)
     | .ret d=>∃ v,f= .ret v/\Rd J W3.F W3.as d v/\Qk J [] W0 s0 W3 QK) (fun _ _=>False) Q4) (fun _ _=>False) {s' with heap:=h',gens:=QH,toks:=tk}:=fun RY g2 x e=>by
   obtain ⟨ρ,RP,e1,e2,e3,rfl⟩:=body RY g2 x e;unfold pX at e1;rw [ai] at e1;have Qy:=ak.mp e1.1;refine af (uc (Y:=am env) hA.1 e2 (fun x hx=>by have:=Qy x hx;rw [ai] at this;exact ⟨this.2,this.1,QX.frame⟩) (abv▸rv) r1.R r1.ok) (fun _ s2 ⟨k2,R2⟩=>?_) fun _ _ f=>f;have r2:=r1.S6 k2 (fun a ha=> .inl ha) R2;have SR:∀ b∈I::Y',KS J W1 s2 s0 B env SU b:=fun b hb=>⟨(VI b hb).1.keep k2,(VI b hb).2⟩
   have WN:UO J A I gi L QD s2 Y':=VM.keep (fun b hb=>(VI b hb).1.at k2 (VI b hb).2.1) fun g e=>k2.gens gi g e;refine af (ok.ss e3 Q5 r2.rebase hA) (fun f s3 y0=>?_) fun _ _ f=>f;obtain ⟨W3,Sf,q⟩:=y0;refine ⟨RP,rfl,W3,Sf,?_⟩;cases RP with
   | ret d=>exact q
   | next=>
    obtain ⟨hf,Uv,q⟩:=q;refine ⟨hf,Uv,r2.join q,WN.keep (fun b hb=>(q.keep b (SR b hb).1 (SR b hb).2.1 (SR b hb).2.2.1).2) fun g e=>q.gens gi g e,fun b hb=>?_⟩;obtain ⟨k3,k4⟩:=q.keep b (SR b hb).1 (SR b hb).2.1 (SR b hb).2.2.1;refine ⟨k3,(SR b hb).2.1,fun hm=>?_,(SR b hb).2.2.2⟩;rcases q.S7 b hm with z | z
    ·exact (SR b hb).2.2.1 z
    ·obtain ⟨_,_,_,o,e⟩:=(SR b hb).1;rw [z] at e;cases e
  rcases pF h with ⟨RY,g2,e,QG⟩ | ⟨RY,g2,x,e,QG⟩
  ·refine af (main _ _ _ e) (fun _ s2 h2=>af h2 (fun f s3 z2=>?_) fun _ _ f=>f.elim) fun _ _ f=>f.elim;obtain ⟨RP,hx,W3,Sf,q⟩:=z2;cases RP with | ret d=>cases hx | next=>obtain ⟨rfl,Uv,r3,WM,aar⟩:=q;exact ⟨QD.length+1,by simp,W3,QD,RY,g2,Uv,Y',rfl,QG,r3,Sf,WM,aar,abE⟩
  ·refine af (main _ _ _ e) (fun _ s2 h2=>af h2 (fun f s3 z3=>?_) fun _ _ f=>f.elim) fun _ _ f=>f.elim;obtain ⟨RP,hx,W3,Sf,q⟩:=z3;cases QG;cases RP with | next=>cases hx | ret d=>cases hx;obtain ⟨v,rfl,rv3,t3⟩:=q;exact ⟨_,rfl,W3,Sf,v,rfl,rv3,t3⟩
end
noncomputable def Hp (J:Cx):Prop:=∃ mg mb a o fd,Ud (F0 J) bC mg/\Ud (F0 J) bU mb/\mg "_iter_escaped_chars" =some (.ref a)/\F0 J a=some o/\o.data= .func fd/\fd.body= .stmts Rx.body/\fd.scope=Rx.scope/\fd.globals=bC/\fd.closure=[]/\fd.builtins=bU/\
 Qv (F0 J) fd.code fd.qualname/\∀ v:ag,iD fd ⟨[v],[]⟩=pure [(("addr" :Str),v)]
theorem CM:∀ {a b:Array di} (h:∀ (i:Nat) (g:di),a[i]? =some g->b[i]? =some g),a.size<=b.size:=by iterate 3
 rcases Nat.lt_or_ge b.size a.size with q | q
 ·have:=h b.size _ (cW q);rw [Array.getElem?_eq_none (bN _)] at this;cases this
 ·exact q
section
variable {J:Cx} {n:Nat}
theorem Be:∀ (gf:Hp J),pJ J 0:=by iterate 1 obtain ⟨mg,mb,a,o,fd,h1,h2,h3,h4,h5,_⟩:=gf;refine ⟨.ref a,⟨⟨mg,mb,h1,h2,.inl h3⟩,fun h hl=>?_⟩,fun h=>by cases h⟩;have:=hl a o h4;obtain ⟨oc,od,dt,sl⟩:=o;dsimp only at h5;subst h5;exact cX h ⟨oc,od,fd,sl,this⟩
theorem Gx:∀ (fx:Fx J) (gf:Hp J) (ok:TJ J n),pJ J (n+1):=by iterate 3
 obtain ⟨fv,c0,_⟩:=Be gf;obtain ⟨mg,mb,a,o,fd,h1,h2,h3,h4,h5,h6,h7,h8,h9,h10,h11,h12⟩:=gf;refine ⟨.ref a,⟨⟨mg,mb,h1,h2,.inl h3⟩,fun h hl=>?_⟩,fun {sc st t x b g fl st' g' env ow A W0 s0 B W s v} h rv hg r hA=>?_⟩
 ·have:=hl a o h4;obtain ⟨oc,od,dt,sl⟩:=o;dsimp only at h5;subst h5;exact cX h ⟨oc,od,fd,sl,this⟩
 have RI:A.depth<cw:=by have:=hA.2.1;omega
 dsimp only [Rd] at rv;obtain ⟨hx,tv,rfl⟩:=rv;have RC:s.heap.CodeRec fd.code fd.qualname:=Qv.at h11 r.ok.Qw;refine eV (codeAny_call_generator RI (r.ok.Qw a o h4) h5 (by rw [h7];rfl) (by rw [h7];rfl) h6 RC ?_);rw [h12];refine ay ?_;rw [h7,h8,h9,h10];refine fA (scope:=Rx.scope) (by decide) (fun y hy=>?_) (fun h' RZ WS=>?_) rfl
 ·simp at hy;subst hy;rfl
 have hL:s.heap.get? s.heap.objs.size=none:=bn _;have nL:=r.ok.QL hL;have fL:=r.QW hL;obtain ⟨L,YV⟩:∃ L,L=s.heap.objs.size:=⟨_,rfl⟩
 rw [<-YV] at RZ WS hL nL fL ⊢;have hz:h'.objs.size=L+1:=by rw [WS.1,m3,YV]
 have kk:∀ b o,s.heap.get? b=some o->h'.get? b=some o:=fun b o e=>WS.extBut b o (fun q=>by rw [q,hL] at e;cases e) (aF _ e);have abB:∃ o,h'.get? L=some o:=by obtain ⟨o,_,_,e,_⟩:=RZ;exact ⟨o,e⟩
 have aat:h'.NoLimit:=by obtain ⟨mc,q1,q2⟩:=fx.SD;exact ⟨mc,q1.ns fun b o e=>kk b o (r.ok.Qw b o e),q2⟩
 refine ⟨aat,?_⟩;dsimp only;generalize Tp:({cls:= .type "generator",data:= .fields #[.int s.gens.size 0,.str fd.name (s.toks+1),.str fd.qualname (s.toks+1+1)]}:Obj)=XX;have hgf:XX.isFreed=false:=by rw [<-Tp];rfl
 have Vs:(h'.push XX).get? h'.objs.size=some XX:=ax _ hgf;have kk3:∀ b o,s.heap.get? b=some o->(h'.push XX).get? b=some o:=fun b o e=>aF _ (kk b o e);have hI:s.heap.get? h'.objs.size=none:=by cases q:s.heap.get? h'.objs.size with | none=>rfl | some o=>exact absurd (dK q) (by rw [hz,YV];exact mC (bV _))
 have nI:=r.ok.QL hI;have fI:=r.QW hI;have hLI:h'.objs.size≠L:=by rw [hz];exact mB _
 have hgk:∀ (i:Nat) (g:di),s.gens[i]? =some g->(s.gens.push (.fresh (.func Rx.body (m5 Rx.scope L bC [] (fd.qualname++bB ".<locals>.") (some a) fd.code none bU))))[i]? =some g:=fun i g e=>by rw [Array.getElem?_push,if_neg (fR (uI e))];exact e
 have YN:ij (s.gens.push (.fresh (.func Rx.body (m5 Rx.scope L bC [] (fd.qualname++bB ".<locals>.") (some a) fd.code none bU)))):=fun y hy=>by
  rcases Array.mem_push.mp hy with q | rfl
  ·exact r.ok.bare y q
  ·rfl
 have tr:=r.tr.Y6 (Y:=[]) (tk:=s.toks+[(bB "addr",ix {cps:=x.toArray} tv)].length+1+1) r.RT (by simp) (fun b o _ e=>kk3 b o e) (fun i g e=>hgk i g (r.tr.gens i g e)) YN;have r3:=r.gen (Y:=[]) tr (PM.le.refl _) (fun _ _ e=> .inl e) rfl rfl (by simp) (fun b o _ e=>kk3 b o e) (fun i g e=>hgk i g (r.gens i g e));have Uy:(h'.push XX).IsGen h'.objs.size s.gens.size:=⟨XX,_,_,Vs,by rw [<-Tp],by rw [<-Tp],by rw [<-Tp]⟩
 refine wpAny_pyIter_gen Uy ?_;refine JU (Y:=[L]) (L:=L) (gi:=s.gens.size) fx ok h hg r3 hA ⟨Uy,.inl ⟨fd.qualname,a,fd.code,⟨x.toArray⟩,tv,_,Array.getElem?_push_size ..,rfl,RZ.push _,rfl,?_⟩⟩ (fun b hb=>?_) (by simpa using hLI) (CM r.gens) (CM r.tr.gens)
 ·show pQ 0 x=gen 0 false x;rw [vQ]
 ·simp at hb;rcases hb with rfl | rfl
  ·exact ⟨⟨nI.1,nI.2.1,nI.2.2,_,Vs⟩,fun hm=>fI (aE _ hm),fun hm=>fI (cU _ hm),r.RH hI,r.tr.Qt hI⟩
  ·obtain ⟨o,e⟩:=abB;exact ⟨⟨nL.1,nL.2.1,nL.2.2,_,aF _ e⟩,fun hm=>fL (aE _ hm),fun hm=>fL (cU _ hm),r.RH hL,r.tr.Qt hL⟩
end
structure Mx (J:Cx):Prop where
 fx:Fx J
 kl:Kl J
 tx:Tx J
 gf:Hp J
 tl:xL J "_law_lexer" "_law_lexer.<locals>.<lambda>" uD
 td:xL J "_digits2int" "_digits2int.<locals>.inner" ⟨90,4,95,55⟩
 ti:xL J "_int2digits" "_int2digits.<locals>.inner" ⟨75,4,84,28⟩
theorem LM:∀ {J:Cx} (m:Mx J) (n:Nat) (hn:30<=n) (Qr:Ok J 9),Z2 J n:=by iterate 5
 exact {
  i2d:=fun h=>(by obtain ⟨fv,c,k⟩:=Dw m.fx m.tx Qr m.ti h;exact ⟨fv,c,fun hA=>k (hA.le hn)⟩)
  d2i:=fun h=>(by obtain ⟨fv,c,k⟩:=Eh m.fx m.tx Qr m.td h;exact ⟨fv,c,fun hA=>k (hA.le hn)⟩)
  lexer:=fun h=>(by obtain ⟨fv,c,k⟩:=AT m.fx m.kl m.tx m.tl h;exact ⟨fv,c,fun hA=>k (hA.le (by omega))⟩)
  Wc:=fun h=>(by obtain ⟨fv,c,k⟩:=FZ m.fx m.kl h;exact ⟨fv,c,fun hA=>k (hA.le (by omega))⟩)}
theorem OC:∀ {J:Cx} (m:Mx J) (n:Nat),Ok J n/\TJ J n/\wo J n/\pJ J n:=by iterate 3 exact (K0 m.fx m.kl (LM m) (fun _ ok=>Gx m.fx m.gf ok) (Be m.gf) n)
theorem H0:∀ {J:Cx} {n:Nat} {fn:Fn} {ds:List D} {fl:Fl} {st':St} {g':G} {b:Bool} {A:bf} {env:Env} {W:Wd} {s Qg:ah} (m:Mx J) (h:ceSs P0 n fn.scope ⟨fn.params.zip ds,[],none⟩ fn.body []=some (.ret (.bool b),st',g')) (hg:W.H=[]) (R:Run J W s ⟨W,Qg,[]⟩ fn.scope env ⟨fn.params.zip ds,[],none⟩ [] W Qg) (hA:Qs n A),aD (aC P0 J.w) A (gg fn.body env) (fun f s'=>f= .ret (.bool b)/\∃ W',Qk J [] W s W' s') (fun _ _=>False) Qg:=by iterate 18 refine af ((OC m n).2.1.ss h hg R hA) (fun f s' z0=>?_) fun _ _ f=>f;obtain ⟨W',ZJ,v,hf,rv,t⟩:=z0;dsimp only [Rd] at rv;subst rv;exact ⟨hf,W',t⟩
end MP.Lake
set_option backward.match.sparseCases false
namespace MP.Lake
open PySem
noncomputable abbrev Qm.At (T:Qm) (x:Str) (d:D):Prop:=T.lookup x=some d
noncomputable def fb (p:bY) (f:Str):List Stmt:=match o8 p f with
| some fn=>fn.body
| none=>[]
noncomputable def fsc (p:bY) (f:Str):aX:=match o8 p f with
| some fn=>fn.scope
| none=> .mk .function [] false false []
noncomputable def OQ:Stmt:= .Return none ⟨0,0,0,0⟩
noncomputable def ex0:Expr:= .Constant .none 0 ⟨0,0,0,0⟩
noncomputable def pW:Stmt->List Stmt
| .If _ b _ _=>b
| .For _ _ b _ _=>b
| .While _ b _ _=>b
| _=>[]
noncomputable def at_ (b:List Stmt) (i:Nat):Stmt:=b.getD i OQ
noncomputable def D4:Stmt->Expr
| .For t _ _ _ _=>t
| _=>ex0
noncomputable def yi:Stmt->Expr
| .Assign _ e _=>e
| .Return (some e) _=>e
| .If t _ _ _=>t
| .For _ it _ _ _=>it
| .While t _ _ _=>t
| .Expr e _=>e
| .AugAssign _ _ e _=>e
| _=>ex0
noncomputable def OZ:Expr->List Expr
| .Call f as _ _=>f::as
| .BinOp l _ r _=>[l,r]
| .UnaryOp _ x _=>[x]
| .Compare l _ rs _=>l::rs
| .BoolOp _ es _=>es
| .Subscript v i _=>[v,i]
| .List es _=>es
| .Tuple es _ _=>es
| .IfExp t a b _=>[t,a,b]
| .Attribute v _ _=>[v]
| _=>[]
noncomputable def NI (e:Expr):List Nat->Expr
| []=>e
| i::r=>NI ((OZ e).getD i ex0) r
noncomputable def Pg:Expr->Bool
| .Slice _ _ _ _=>true
| _=>false
noncomputable def turnL (p:bY) (n:Nat) (sc:aX) (st:St) (t elt:Expr) (ifs:List Expr) (Qh:aX) (d:D) (acc:List D) (g:G):Option (List D×G×Option D):=
 (bv t d []).bind fun ρ=>(ceIfs p n Qh ((st.comp sc Qh).withRho ρ) ifs g).bind fun b=>
  if b.1 then (ceE p n Qh ((st.comp sc Qh).withRho ρ) elt b.2).bind fun x=>some (acc++[x.1],x.2,none) else some (acc,b.2,none)
noncomputable def turnD (p:bY) (n:Nat) (sc:aX) (st:St) (t k v:Expr) (ifs:List Expr) (Qh:aX) (d:D) (acc:List (Int×Int)) (g:G):Option (List (Int×Int)×G×Option D):=
 (bv t d []).bind fun ρ=>(ceIfs p n Qh ((st.comp sc Qh).withRho ρ) ifs g).bind fun b=>
  if b.1 then (ceE p n Qh ((st.comp sc Qh).withRho ρ) k b.2).bind fun x=>(ceE p n Qh ((st.comp sc Qh).withRho ρ) v x.2).bind fun y=>(oH x.1).bind fun x'=>(oH y.1).bind fun y'=>some (put x' y' acc,y.2,none) else some (acc,b.2,none)
noncomputable def turnF (p:bY) (n:Nat) (sc:aX) (t:Expr) (body:List Stmt) (d:D) (st:St) (g:G):Option (St×G×Option D):=
 (q7 (pX sc st t)).bind fun _=>(bv t d st.ρ).bind fun ρ=>(ceSs p n sc (st.withRho ρ) body g).bind fun x=>some (x.2.1,x.2.2,rK x.1)
theorem f8:∀ {α β:Type} {o:Option α} {a:α} {f:α->Option β} {r:Option β} (h:o=some a) (k:f a=r),o.bind f=r:=by iterate 8 rw [h];exact k
theorem oM:∀ {b:Bool} (h:b=true),q7 b=some ():=by iterate 2 rw [h];rfl
theorem vz:∀ {α:Type} {c:Bool} {A B r:α} (h:(bif c then A else B)=r),(if c=true then A else B)=r:=by iterate 6 cases c<;>exact h
theorem bind_none:∀ {α β:Type} {o:Option α} {q:Option β} (h:q=none),(o.bind fun _=>q)=none:=by iterate 5
 cases o
 ·rfl
 ·exact h
section
variable {p:bY} {n:Nat} {sc Qh:aX} {st QU RY:St} {e l r t i it elt:Expr} {es as ifs:List Expr} {op:iE} {pos ap cp xp:Pos} {g g1 g2 g3:G} {a b d k:D} {ds acc:List D} {c c2:Bool} {x f m:Str} {s:Stmt} {ss body o:List Stmt} {fl:Fl} {lv:Option D}
theorem e_name:∀ (hk:mt x=true) (h:nameD p sc st x=some d),ceE p (n+1) sc st (.Name x pos) g=some (d,g):=by iterate 2 exact (f8 (oM hk) (f8 h rfl))
theorem e_bin:∀ (h1:ceE p n sc st l g=some (a,g1)) (h2:ceE p n sc st r g1=some (b,g2)) (h3:binop op a b=some d),ceE p (n+1) sc st (.BinOp l op r pos) g=some (d,g2):=by iterate 3 exact (f8 h1 (f8 h2 (f8 h3 rfl)))
theorem e_if:∀ (h1:ceT p n sc st t g=some (c,g1)) (h2:(bif c then ceE p n sc st l g1 else ceE p n sc st r g1)=some (d,g2)),ceE p (n+1) sc st (.IfExp t l r pos) g=some (d,g2):=by iterate 2 exact (f8 h1 (vz h2))
theorem e_and:∀ (h1:ceAnd p n sc st es g=some (d,g2)),ceE p (n+1) sc st (.BoolOp .And es pos) g=some (d,g2):=by iterate 1 exact (h1)
theorem e_cmp:∀ {o:CmpOp} (h1:ceE p n sc st l g=some (a,g1)) (h2:ceE p n sc st r g1=some (b,g2)) (h3:cmp p o a b=some c),ceE p (n+1) sc st (.Compare l [o] [r] pos) g=some (.bool c,g2):=by iterate 4 exact (f8 h1 (f8 h2 (f8 h3 rfl)))
theorem e_tup:∀ {q:Nat} (h1:ceEs p n sc st es g=some (ds,g1)) (h2:ds.length<=lim),ceE p (n+1) sc st (.Tuple es q pos) g=some (.tup ds,g1):=by iterate 3 exact (f8 h1 (f8 (oM (decide_eq_true h2)) rfl))
theorem e_lst:∀ (h1:ceEs p n sc st es g=some (ds,g1)) (h2:ds.length<=lim),ceE p (n+1) sc st (.List es pos) g=some (.lst ds,g1):=by iterate 2 exact (f8 h1 (f8 (if_pos h2) rfl))
theorem e_slice:∀ {lo hi:Option Expr} {lo' Vh:Option Int} {sp:Pos} (h1:ceE p n sc st l g=some (a,g1)) (h2:ceOpt p n sc st lo g1=some (lo',g2)) (h3:ceOpt p n sc st hi g2=some (Vh,g3)) (h4:xc g3 a lo' Vh=some d),ceE p (n+1) sc st (.Subscript l (.Slice lo hi none sp) pos) g=some (d,g3):=by iterate 9 exact (f8 h1 (f8 h2 (f8 h3 (f8 h4 rfl))))
theorem e_rev:∀ {q:Nat} {p1 p2 sp:Pos} (h1:ceE p n sc st l g=some (a,g1)) (h2:Jv a=some d),ceE p (n+1) sc st (.Subscript l (.Slice none none (some (.UnaryOp .USub (.Constant (.int 1) q p1) p2)) sp) pos) g=some (d,g1):=by iterate 6 exact (f8 h1 (f8 h2 rfl))
theorem e_sub:∀ (hi:Pg i=false) (h1:ceE p n sc st l g=some (a,g1)) (h2:ceE p n sc st i g1=some (k,g2)) (h3:subD p a k=some d),ceE p (n+1) sc st (.Subscript l i pos) g=some (d,g2):=by iterate 4 cases i with | Slice=>cases hi | _=>exact f8 h1 (f8 h2 (f8 h3 rfl))
theorem e_comp:∀ (hc:(yg sc Qh&&tQ Qh t)=true) (h1:ceE p n sc st it g=some (d,g1)) (h2:itemsOf d=some ds) (h3:iterLoop (turnL p n sc st t elt ifs Qh) ds [] g1=some (acc,g2,lv)) (h4:acc.length<=lim),ceE p (n+1) sc st (.ListComp elt [⟨t,it,ifs,0⟩] Qh pos) g=some (.lst acc,g2):=by iterate 5 exact (f8 (oM hc) (f8 h1 (f8 h2 (f8 (show iterLoop (O8 (fs p n) sc st t elt ifs Qh) ds [] g1=_ from h3) (f8 (if_pos h4) rfl)))))
theorem e_dcomp:∀ {kv:List (Int×Int)} (hc:(yg sc Qh&&tQ Qh t)=true) (h1:ceE p n sc st it g=some (d,g1)) (h2:itemsOf d=some ds) (h3:iterLoop (turnD p n sc st t l r ifs Qh) ds [] g1=some (kv,g2,lv)) (h4:kv.length<=lim),ceE p (n+1) sc st (.DictComp l r [⟨t,it,ifs,0⟩] Qh pos) g=some (.QC kv,g2):=by iterate 6 exact (f8 (oM hc) (f8 h1 (f8 h2 (f8 (show iterLoop (Pu (fs p n) sc st t l r ifs Qh) ds [] g1=_ from h3) (f8 (oM (decide_eq_true h4)) rfl)))))
theorem e_call:∀ {fp:Pos} (hc:(pZ sc f&&mt f)=true) (h1:ceEs p n sc st as g=some (ds,g1)) (h2:ceCall p n f ds g1=some (d,g2)),ceE p (n+1) sc st (.Call (.Name f fp) as [] pos) g=some (d,g2):=by iterate 4 exact (f8 (oM hc) (f8 h1 h2))
theorem e_cmeth:∀ {str:Str} {q:Nat} (hc:(ap.endLine==cp.line&&as.length<30&&str.length<=lim)=true) (h1:ceEs p n sc st as g=some (ds,g1)) (h2:methD m (.str str.cps.toList) ds g1=some (d,g2)),ceE p (n+1) sc st (.Call (.Attribute (.Constant (.str str) q xp) m ap) as [] cp) g=some (d,g2):=by iterate 5 exact (f8 (oM hc) (f8 h1 h2))
theorem e_meth:∀ (ho:tJ st x=none) (hc:(ap.endLine==cp.line&&as.length<30&&decide (Ki m<=n))=true) (h1:ceE p n sc st (.Name x xp) g=some (a,g1)) (h2:ceEs p n sc st as g1=some (ds,g2)) (hk:(qe g1 a==qe g2 a)=true) (h3:methD m a ds g2=some (d,g3)),ceE p (n+1) sc st (.Call (.Attribute (.Name x xp) m ap) as [] cp) g=some (d,g3):=by iterate 6 show (match tJ st x with | some Qx=>_ | none=>_)=_;rw [ho];exact f8 (oM hc) (f8 h1 (f8 h2 (f8 (oM hk) h3)))
theorem e_name_none:∀ (h:nameD p sc st x=none),ceE p (n+1) sc st (.Name x pos) g=none:=by iterate 1 exact (bind_none (show (nameD p sc st x).bind _=none by rw [h];rfl))
theorem e_call_none:∀ {fp:Pos} (h1:ceEs p n sc st as g=none),ceE p (n+1) sc st (.Call (.Name f fp) as [] pos) g=none:=by iterate 2 exact (bind_none (show (ceEs p n sc st as g).bind _=none by rw [h1];rfl))
theorem es_none:∀ (h1:ceE p n sc st e g=none),ceEs p (n+1) sc st (e::es) g=none:=by iterate 1 show (ceE p n sc st e g).bind _=none;rw [h1];rfl
theorem condT:∀ {α:Type} {c:Bool} {A B r:α} (h:c=true) (h2:A=r),cond c A B=r:=by iterate 7 rw [h];exact h2
theorem condF:∀ {α:Type} {c:Bool} {A B r:α} (h:c=false) (h2:B=r),cond c A B=r:=by iterate 7 rw [h];exact h2
theorem t_not:∀ (h1:ceT p n sc st e g=some (c,g1)),ceT p (n+1) sc st (.UnaryOp .Not e pos) g=some (!c,g1):=by iterate 1 exact (f8 h1 rfl)
theorem t_or:∀ (h1:ceOr p n sc st es g=some (c,g1)),ceT p (n+1) sc st (.BoolOp .Or es pos) g=some (c,g1):=by iterate 1 exact (h1)
theorem t_and:∀ (h1:ceAndT p n sc st es g=some (c,g1)),ceT p (n+1) sc st (.BoolOp .And es pos) g=some (c,g1):=by iterate 1 exact (h1)
theorem t_cmp:∀ {o:CmpOp} (h1:ceE p n sc st l g=some (a,g1)) (h2:ceE p n sc st r g1=some (b,g2)) (h3:cmp p o a b=some c),ceT p (n+1) sc st (.Compare l [o] [r] pos) g=some (c,g2):=by iterate 4 exact (f8 h1 (f8 h2 (f8 h3 rfl)))
theorem t_call:∀ {fp:Pos} (h1:ceE p n sc st (.Call (.Name f fp) as [] pos) g=some (.bool c,g1)),ceT p (n+1) sc st (.Call (.Name f fp) as [] pos) g=some (c,g1):=by iterate 2 exact (f8 h1 rfl)
theorem t_name:∀ (h1:ceE p n sc st (.Name x pos) g=some (.bool c,g1)),ceT p (n+1) sc st (.Name x pos) g=some (c,g1):=by iterate 1 exact (f8 h1 rfl)
theorem or_nil:ceOr p (n+1) sc st [] g=some (false,g):=by iterate 0 exact (rfl)
theorem or_step:∀ (h1:ceT p n sc st e g=some (c,g1)) (h2:(bif c then some (true,g1) else ceOr p n sc st es g1)=some (c2,g2)),ceOr p (n+1) sc st (e::es) g=some (c2,g2):=by iterate 2 exact (f8 h1 (vz h2))
theorem andT_nil:ceAndT p (n+1) sc st [] g=some (true,g):=by iterate 0 exact (rfl)
theorem andT_step:∀ (h1:ceT p n sc st e g=some (c,g1)) (h2:(bif c then ceAndT p n sc st es g1 else some (false,g1))=some (c2,g2)),ceAndT p (n+1) sc st (e::es) g=some (c2,g2):=by iterate 2 exact (f8 h1 (vz h2))
theorem and_one:∀ (h1:ceE p n sc st e g=some (d,g1)),ceAnd p (n+1) sc st [e] g=some (d,g1):=by iterate 1 exact (h1)
theorem and_step:∀ {e2:Expr} (h1:ceE p n sc st e g=some (.bool c,g1)) (h2:(bif c then ceAnd p n sc st (e2::es) g1 else some (.bool false,g1))=some (d,g2)),ceAnd p (n+1) sc st (e::e2::es) g=some (d,g2):=by iterate 3 exact (f8 h1 (f8 rfl (vz h2)))
theorem es_nil:ceEs p (n+1) sc st [] g=some ([],g):=by iterate 0 exact (rfl)
theorem es_cons:∀ (h1:ceE p n sc st e g=some (d,g1)) (h2:ceEs p n sc st es g1=some (ds,g2)),ceEs p (n+1) sc st (e::es) g=some (d::ds,g2):=by iterate 2 exact (f8 h1 (f8 h2 rfl))
theorem ifs_nil:ceIfs p (n+1) sc st [] g=some (true,g):=by iterate 0 exact (rfl)
theorem ifs_one:∀ (h1:ceT p n sc st e g=some (c,g1)),ceIfs p (n+1) sc st [e] g=some (c,g1):=by iterate 1 exact (f8 rfl h1)
theorem opt_none:ceOpt p (n+1) sc st none g=some (none,g):=by iterate 0 exact (rfl)
theorem opt_some:∀ {i:Int} (h1:ceE p n sc st e g=some (.int i,g1)),ceOpt p (n+1) sc st (some e) g=some (some i,g1):=by iterate 2 exact (f8 h1 (f8 rfl rfl))
theorem ss_nil:ceSs p (n+1) sc st [] g=some (.next,st,g):=by iterate 0 exact (rfl)
noncomputable def contS (p:bY) (n:Nat) (sc:aX) (ss:List Stmt) (fl:Fl) (st:St) (g:G):Option (Fl×St×G):=match fl with
| .next=>ceSs p n sc st ss g
| .ret d=>some (.ret d,st,g)
theorem ss_step:∀ {ZW:Fl} (h1:ceS p n sc st s g=some (fl,QU,g1)) (h2:contS p n sc ss fl QU g1=some (ZW,RY,g2)),ceSs p (n+1) sc st (s::ss) g=some (ZW,RY,g2):=by iterate 3 exact (f8 h1 (by cases fl<;>exact h2))
theorem s_ret:∀ (h1:ceE p n sc st.freeze e g=some (d,g1)),ceS p (n+1) sc st (.Return (some e) pos) g=some (.ret d,st.freeze,g1):=by iterate 1 exact (f8 h1 rfl)
theorem s_if:∀ (h1:ceT p n sc st t g=some (c,g1)) (h2:(bif c then ceSs p n sc st ss g1 else ceSs p n sc st o g1)=some (fl,QU,g2)),ceS p (n+1) sc st (.If t ss o pos) g=some (fl,QU,g2):=by iterate 2 exact (f8 h1 (vz h2))
theorem Hr:∀ (h3:iterLoop (turnF p n sc t body) ds st g=some (QU,g1,lv)),wr p (n+1) sc st t ds body g=some (FB lv,QU,g1):=by iterate 1 exact (f8 (show iterLoop (MG (fs p n) sc t body) ds st g=_ from h3) rfl)
theorem s_for:∀ (hg:qW sc "_iter_escaped_chars" it=none) (hr:qW sc "reversed" it=none) (h1:ceE p (n+1) sc st it g=some (d,g1)) (h2:itemsOf d=some ds) (h3:iterLoop (turnF p n sc t body) ds st g1=some (QU,g2,lv)),ceS p (n+2) sc st (.For t it body [] pos) g=some (FB lv,QU,g2):=by iterate 5 show (match qW sc "_iter_escaped_chars" it with | some a=>_ | none=>match qW sc "reversed" it with | some a=>_ | none=>_)=_;rw [hg,hr];exact f8 h1 (f8 h2 (Hr h3))
theorem s_forG:∀ {s':List Nat} (hg:qW sc "_iter_escaped_chars" it=some e) (h1:ceE p (n+1) sc st e g=some (.str s',g1)) (h3:iterLoop (turnF p n sc t body) (units s') st g1=some (QU,g2,lv)),ceS p (n+2) sc st (.For t it body [] pos) g=some (FB lv,QU,g2):=by iterate 4 show (match qW sc "_iter_escaped_chars" it with | some a=>_ | none=>_)=_;rw [hg];exact f8 h1 (f8 rfl (Hr h3))
theorem s_forR:∀ {xs:List D} (hg:qW sc "_iter_escaped_chars" it=none) (hr:qW sc "reversed" it=some e) (h1:ceE p (n+1) sc st e g=some (.lst xs,g1)) (h3:iterLoop (turnF p n sc t body) xs.reverse st g1=some (QU,g2,lv)),ceS p (n+2) sc st (.For t it body [] pos) g=some (FB lv,QU,g2):=by iterate 5 show (match qW sc "_iter_escaped_chars" it with | some a=>_ | none=>match qW sc "reversed" it with | some a=>_ | none=>_)=_;rw [hg,hr];exact f8 h1 (f8 rfl (Hr h3))
theorem s_asg:∀ (hn:tG e=none) (hd:xJ e=false) (hc:(oO st x&&pK sc x)=true) (h1:ceE p n sc st e g=some (d,g1)),ceS p (n+1) sc st (.Assign [.Name x xp] e pos) g=some (.next,st.withRho ((x,d)::st.ρ),g1):=by iterate 4 show sY (fs p n) sc st x e g=_;unfold sY;rw [hn,hd,show ((q7 (oO st x&&pK sc x)).bind fun _=>(fs p n).e sc st e g)=some (d,g1) from f8 (oM hc) h1];rfl
theorem s_tup:∀ {ts:List Expr} {q:Nat} {tp:Pos} {ρ:Qm} (hr:qk p sc st e=none) (hc:(pX sc st (.Tuple ts q tp)&&uR e)=true) (h1:ceE p n sc st e g=some (d,g1)) (h2:bv (.Tuple ts q tp) d st.ρ=some ρ),ceS p (n+1) sc st (.Assign [.Tuple ts q tp] e pos) g=some (.next,st.withRho ρ,g1):=by iterate 8 show (match qk p sc st e with | some q=>_ | none=>_)=_;rw [hr];exact f8 (oM hc) (f8 h1 (f8 h2 rfl))
theorem s_aug:∀ (hc:(oO st x&&pK sc x)=true) (h1:ceE p n sc st (.Name x xp) g=some (a,g1)) (h2:ceE p n sc st e g1=some (b,g2)) (h3:inop op a b=some d),ceS p (n+1) sc st (.AugAssign (.Name x xp) op e pos) g=some (.next,st.withRho ((x,d)::st.ρ),g2):=by iterate 4 exact (f8 (oM hc) (f8 h1 (f8 h2 (f8 h3 rfl))))
theorem turn_ok:∀ {ρ:Qm} (h1:bv t d []=some ρ) (h2:ceIfs p n Qh ((st.comp sc Qh).withRho ρ) ifs g=some (c,g1)) (hc:c=true) (h3:ceE p n Qh ((st.comp sc Qh).withRho ρ) elt g1=some (a,g2)),turnL p n sc st t elt ifs Qh d acc g=some (acc++[a],g2,none):=by iterate 5 subst hc;simp only [turnL,h1,h2,h3,bz,if_true]
theorem turn_no:∀ {ρ:Qm} (h1:bv t d []=some ρ) (h2:ceIfs p n Qh ((st.comp sc Qh).withRho ρ) ifs g=some (c,g1)) (hc:c=false),turnL p n sc st t elt ifs Qh d acc g=some (acc,g1,none):=by iterate 4 subst hc;simp [turnL,h1,h2]
theorem turnD_ok:∀ {ρ:Qm} {kv:List (Int×Int)} {i1 i2:Int} (h1:bv t d []=some ρ) (h2:ceIfs p n Qh ((st.comp sc Qh).withRho ρ) ifs g=some (c,g1)) (hc:c=true) (h3:ceE p n Qh ((st.comp sc Qh).withRho ρ) l g1=some (.int i1,g2)) (h4:ceE p n Qh ((st.comp sc Qh).withRho ρ) r g2=some (.int i2,g3)),turnD p n sc st t l r ifs Qh d kv g=some (put i1 i2 kv,g3,none):=by iterate 9 subst hc;simp only [turnD,h1,h2,h3,h4,show ∀ i,oH (.int i)=some i from fun _=>rfl,bz,if_true]
theorem turnD_no:∀ {ρ:Qm} {kv:List (Int×Int)} (h1:bv t d []=some ρ) (h2:ceIfs p n Qh ((st.comp sc Qh).withRho ρ) ifs g=some (c,g1)) (hc:c=false),turnD p n sc st t l r ifs Qh d kv g=some (kv,g1,none):=by iterate 5 subst hc;simp [turnD,h1,h2]
theorem turnF_ok:∀ {ρ:Qm} (hf:pX sc st t=true) (h1:bv t d st.ρ=some ρ) (h2:ceSs p n sc (st.withRho ρ) body g=some (.next,QU,g1)),turnF p n sc t body d st g=some (QU,g1,none):=by iterate 4 simp [turnF,hf,q7,h1,h2,rK]
theorem turnF_ret:∀ {ρ:Qm} (hf:pX sc st t=true) (h1:bv t d st.ρ=some ρ) (h2:ceSs p n sc (st.withRho ρ) body g=some (.ret a,QU,g1)),turnF p n sc t body d st g=some (QU,g1,some a):=by iterate 4 simp [turnF,hf,q7,h1,h2,rK]
theorem s_asgf:∀ (hn:tG e=none) (hd:xJ e=false) (hc:((q7 (oO st x&&pK sc x)).bind fun _=>ceE p n sc st e g)=none) (hx:pK sc x=true) (h1:ceE p n sc st.freeze e g=some (d,g1)),ceS p (n+1) sc st (.Assign [.Name x xp] e pos) g=some (.next,st.freeze.withRho ((x,d)::st.freeze.ρ),g1):=by iterate 5 show sY (fs p n) sc st x e g=_;unfold sY;rw [hn,hd,show ((q7 (oO st x&&pK sc x)).bind fun _=>(fs p n).e sc st e g)=none from hc];exact f8 (oM hx) (f8 h1 rfl)
theorem s_own:∀ {xs ys:List D} (ho:tV st x=some xs) (hc:(ap.endLine==cp.line&&as.length<30&&mt x)=true) (h1:ceEs p n sc st as g=some (ds,g1)) (h2:ownMeth m xs ds=some ys),ceS p (n+1) sc st (.Expr (.Call (.Attribute (.Name x xp) m ap) as [] cp) pos) g=some (.next,qg st x (.lst ys),g1):=by iterate 6 show qj (fs p n) sc st n x xp m ap as cp g=_;unfold qj;rw [ho];exact f8 (oM hc) (f8 h1 (f8 h2 rfl))
theorem s_push:∀ {j:Nat} (ho:tV st x=none) (hc:(ap.endLine==cp.line&&as.length<30&&decide (Ki m<=n))=true) (h1:ceE p n sc st (.Name x xp) g=some (.loc j,g1)) (hr:(m==("append" :Str))=false) (hm:(m==("push_token" :Str))=true) (h2:ceEs p n sc st as g1=some (ds,g2)) (hk:(qe g1 (.loc j)==qe g2 (.loc j))=true) (h3:methD m (.loc j) ds g2=some (d,g3)),ceS p (n+1) sc st (.Expr (.Call (.Attribute (.Name x xp) m ap) as [] cp) pos) g=some (.next,st,g3):=by iterate 9 show qj (fs p n) sc st n x xp m ap as cp g=_;unfold qj;rw [ho,hr];exact f8 (oM hc) (f8 h1 (f8 rfl (f8 (oM hm) (f8 h2 (f8 (oM hk) (f8 h3 rfl))))))
theorem s_newrow:∀ {j:Nat} {ob:MO} {a1:Expr} {u:Unit} {rows:List (List D)} (ho:tV st x=none) (hc:(ap.endLine==cp.line&&as.length<30&&decide (Ki m<=n))=true) (h1:ceE p n sc st (.Name x xp) g=some (.loc j,g1)) (hr:(m==("append" :Str))=true) (q1:uv as=some a1) (q2:tG a1=some es) (q3:sy es=some u) (h2:g1[j]? =some ob) (h3:sR ob=some rows) (h4:rows.length<lim),ceS p (n+1) sc st (.Expr (.Call (.Attribute (.Name x xp) m ap) as [] cp) pos) g=some (.next,st,g1.set j (.Qu (rows++[[]]))):=by iterate 15 show qj (fs p n) sc st n x xp m ap as cp g=_;unfold qj;rw [ho,hr];exact f8 (oM hc) (f8 h1 (f8 rfl (f8 q1 (f8 q2 (f8 q3 (f8 h2 (f8 h3 (f8 (oM (decide_eq_true h4)) rfl))))))))
theorem s_setitem:∀ {Qx:List (Int×Int)} {i1 i2:Int} {sp:Pos} (ho:tJ st x=some Qx) (hc:(mt x&&zA e)=true) (h1:ceE p n sc st e g=some (.int i2,g1)) (h2:ceE p n sc st i g1=some (.int i1,g2)) (h3:Qx.length<lim),ceS p (n+1) sc st (.Assign [.Subscript (.Name x xp) i sp] e pos) g=some (.next,qg st x (.QC (put i1 i2 Qx)),g2):=by iterate 9 exact (f8 ho (f8 (oM hc) (f8 h1 (f8 h2 (f8 rfl (f8 rfl (f8 (oM (decide_eq_true h3)) rfl)))))))
theorem s_augitem:∀ {xs:List D} {q:Nat} {sp:Pos} (ho:tV st x=some xs) (hx:mt x=true) (h1:ceE p n sc st i g=some (k,g1)) (hk:qq k=some q) (ha:xs[q]? =some a) (h2:ceE p n sc st e g1=some (b,g2)) (h3:inop op a b=some d),ceS p (n+1) sc st (.AugAssign (.Subscript (.Name x xp) i sp) op e pos) g=some (.next,qg st x (.lst (xs.set q d)),g2):=by iterate 10 exact (f8 ho (f8 (oM hx) (f8 h1 (f8 hk (f8 ha (f8 h2 (f8 h3 rfl)))))))
theorem s_row:∀ {ts:List Expr} {q:Nat} {tp:Pos} {j kk:Nat} {ob:MO} {rows:List (List D)} {ρ:Qm} (hr:qk p sc st e=some (j,i)) (hc:pX sc st (.Tuple ts q tp)=true) (h1:ceE p n sc st i g=some (k,g1)) (hk:qq k=some kk) (h2:g1[j]? =some ob) (h3:sR ob=some rows) (h4:rows[kk]? =some ds) (h5:zb ts ds st.ρ=some ρ),ceS p (n+1) sc st (.Assign [.Tuple ts q tp] e pos) g=some (.next,st.withRho ρ,g1):=by iterate 16 show (match qk p sc st e with | some q=>_ | none=>_)=_;rw [hr];exact f8 (oM hc) (f8 h1 (f8 hk (f8 h2 (f8 h3 (f8 h4 (f8 h5 rfl))))))
theorem s_while:∀ (h:vW (fun st g=>ceT p n sc st t g) (fun st g=>ceSs p n sc st body g) 200 st g=some (fl,QU,g1)),ceS p (n+2) sc st (.While t body [] pos) g=some (fl,QU,g1):=by iterate 1 exact (h)
theorem e_attr:∀ {j:Nat} {ob:MO} (h1:ceE p n sc st (.Name x xp) g=some (.loc j,g1)) (h2:g1[j]? =some ob) (h3:xC m ob=some d),ceE p (n+1) sc st (.Attribute (.Name x xp) m pos) g=some (d,g1):=by iterate 5 exact (f8 h1 (f8 rfl (f8 h2 (f8 h3 rfl))))
theorem Jk:∀ {fn:Fn} (hs:special f=none) (hf:o8 p f=some fn) (hc:(fn.params.length==ds.length&&!fn.scope.isGenerator)=true) (h1:ceSs p n fn.scope ⟨fn.params.zip ds,[],none⟩ fn.body g=some (.ret d,QU,g1)),ceCall p (n+1) f ds g=some (d,g1):=by iterate 5 show rz p (fs p n) n f ds g=_;unfold rz;rw [hs];exact f8 hf (f8 (oM hc) (f8 h1 (f8 rfl rfl)))
end
theorem Dy:∀ {sc:aX} {st:St} {x:Str} {d:D} (h2:varD sc st x=some d),∀ {ns:List (Str×eN)},ns.lookup x=some .free->(ns.filterMap fun q=>if q.2== .free then (varD sc st q.1).map (q.1,·) else none).lookup x=some d:=by iterate 5
 intro ns;induction ns with
 | nil=>intro h;simp at h
 | cons Rv ns Qj=>
  obtain ⟨y,k⟩:=Rv;intro h;rw [aY] at h;rw [fq];cases e:x==y with
  | true=>rw [e] at h;cases h;have:=eq_of_beq e;subst this;simp [h2]
  | false=>
   rw [e] at h;have ih:=Qj h;dsimp only;cases hk:(k==cb) with
   | false=>simpa [hk] using ih
   | true=>cases hv:varD sc st y with | none=>simpa [hk,hv] using ih | some v=>simp only [hk,if_true,hv,cY];rw [aY,e];exact ih
theorem comp_free:∀ {p:bY} {sc Qh:aX} {st:St} {ρ:Qm} {x:Str} {d:D} (h1:Qh.names.lookup x=some .free) (h2:varD sc st x=some d),nameD p Qh ((st.comp sc Qh).withRho ρ) x=some d:=by iterate 9 unfold nameD;rw [h1];exact Dy h2 h1
theorem ol:∀ {σ:Type} {step:D->σ->G->Option (σ×G×Option D)} {d:D} {ds:List D} {a a':σ} {g g':G} (h:step d a g=some (a',g',none)),iterLoop step (d::ds) a g=iterLoop step ds a' g':=by iterate 9 exact (f8 h rfl)
theorem DA:∀ {σ:Type} {step:D->σ->G->Option (σ×G×Option D)} {s:σ} {g:G},∀ {ds:List D},(∀ d∈ds,step d s g=some (s,g,none))->iterLoop step ds s g=some (s,g,none):=by iterate 4 intro ds;induction ds with | nil=>intro _;exact rfl | cons d ds Qj=>intro h;exact f8 (h d (by simp)) (Qj fun x hx=>h x (by simp [hx]))
theorem loop_nil:∀ {σ:Type} {step:D->σ->G->Option (σ×G×Option D)} {s:σ} {g:G},iterLoop step [] s g=some (s,g,none):=by iterate 4 exact (rfl)
noncomputable def contL {σ:Type} (step:D->σ->G->Option (σ×G×Option D)) (ds:List D) (s:σ) (g:G):Option D->Option (σ×G×Option D)
| none=>iterLoop step ds s g
| some d=>some (s,g,some d)
theorem loop_cons:∀ {σ:Type} {step:D->σ->G->Option (σ×G×Option D)} {d:D} {ds:List D} {s s1:σ} {g g1:G} {o:Option D} {r:Option (σ×G×Option D)} (h1:step d s g=some (s1,g1,o)) (h2:contL step ds s1 g1 o=r),iterLoop step (d::ds) s g=r:=by iterate 12 refine f8 h1 ?_;cases o<;>exact h2
theorem qz:∀ {α:Type} {step:D->List D->G->Option (List D×G×Option D)} {g:G} {emb F:α->D},∀ {xs:List α} {acc:List D},(∀ x∈xs,∀ acc,step (emb x) acc g=some (acc++[F x],g,none))->iterLoop step (xs.map emb) acc g=some (acc++xs.map F,g,none):=by iterate 5 intro xs;induction xs with | nil=>intro acc _;show some (acc,g,none)=some (acc++[],g,none);rw [aS] | cons x xs Qj=>intro acc h;refine f8 (h x (by simp) acc) ((Qj fun x hx=>h x (by simp [hx])).trans ?_);simp
namespace Wk
open Lean Meta Elab Tactic Mt
abbrev X:=Lean.Expr
abbrev R:=Option (List MVarId)
variable (S:X->X)
def kw (e:X):MetaM X:=do ofExceptKernelException (Kernel.whnf (<-getEnv) (<-getLCtx) (S (<-instantiateMVars e)))
def O6 (a b:X):MetaM Bool:=do
 match Kernel.isDefEq (<-getEnv) (<-getLCtx) (S a) (S b) with
| .ok r=>return r
| .error _=>return false
def pj:Nat->X->X
| 0,e=>e
| k+1,e=>
  let part (i:Nat) (p:X):X:=
   let q:=pj k p
   if hd q=="Prod.mk" &&q.getAppNumArgs==4 then pj k (q.getArg! (2+i)) else e
  match e with
  | .proj _ i p=>part i p
  | _=>if e.getAppNumArgs==3 then (if hd e=="Prod.snd" then part 1 e.appArg! else if hd e=="Prod.fst" then part 0 e.appArg! else e) else e
def Gy (f:X->MetaM X):Nat->List X->MetaM (List X)
| _,[]=>pure []
| i+1,a::r=>return a::(<-Gy f i r)
| 0,a::r=>return (<-f a)::(<-Gy f 0 r)
def Nb (m:Bool) (h:String):Option Nat:=
 let p:=(h.splitOn ".").head!
 if vL h "List.cons Option.some" then some 1
 else if vL h "List.nil Option.none" then some 99
 else if m then (if vL p "Expr Stmt Comprehension" then some 0 else none)
 else if h=="Prod.mk" then some 2
 else if vL h "St.mk D.lst D.tup OW.lst D.bool" then some 0
 else if vL p "D OW Bool Fl" then some 99 else none
def Pm (m:Bool):Nat->X->MetaM X
| 0,e=>pure e
| k+1,e=>do
  let t <-kw S e
  match Nb m (hd t) with
  | some i=>return mkAppN t.getAppFn (<-Gy (Pm m k) i t.getAppArgs.toList).toArray
  | none=>return if m then e else pj 100 e
def Pq (a b:X):Bool:=vL (hd a++"|" ++hd b) "Option.none|Option.some Option.some|Option.none Bool.true|Bool.false Bool.false|Bool.true"
def put (g:MVarId) (p pf:X):MetaM (Option R):=do
 g.assign (mkApp2 (.const `id [.zero]) p pf)
 return some (some [])
def zp (g:MVarId) (lhs rhs:X):MetaM (Option R):=do
 let v <-kw S lhs
 if !vL (hd v) "Option.some Bool.true Bool.false Option.none List.cons List.nil" then return none
 if Pq v (<-instantiateMVars rhs) then return some none
 if <-isDefEq rhs (<-Pm S false 400 v) then put g (<-mkEq lhs rhs) (<-mkEqRefl lhs) else return none
def TO (e:X):MetaM String:=do
 let a <-kw S e
 let bo (b:X) (o:String):String:=if vL (hd b) "Bool.true Bool.false Option.none" then hd b else o
 if hd a=="Option.some" then return "S" ++bo (<-kw S a.appArg!) "" else return bo a "?"
def MZ (a b:X):MetaM Bool:=do
 let x <-TO S a
 let y <-TO S b
 return if x=="?" ||y=="?" then false else if x=="S" then y=="Option.none" else if y=="S" then x=="Option.none" else x !=y
def Pb (f:X) (k:Nat):MetaM X:=do
 match f.nat? with
| some n=>if k<=n then return mkNatLit (n-k) else throwError "f"
| none=>
  let n:=f.appArg!.nat?.getD 0
  if hd f !="HAdd.hAdd" ||n<k then throwError "f"
  let a:=f.appFn!.appArg!
  if k==n then return a else mkAdd a (mkNatLit (n-k))
def tab:String:="none.Name e_name_none/none.Call e_call_none/none.cons es_none/ceE.Name e_name/ceE.BinOp e_bin/ceE.IfExp e_if/ceE.BoolOp e_and/ceE.Compare e_cmp/ceE.Tuple e_tup/ceE.List e_lst/ceE.Subscript e_rev e_slice e_sub/ceE.ListComp e_comp/ceE.DictComp e_dcomp/ceE.Call e_call e_cmeth e_meth/ceE.Attribute e_attr/ceT.UnaryOp t_not/ceT.BoolOp t_or t_and/ceT.Compare t_cmp/ceT.Call t_call/ceT. t_name/ceOr.nil or_nil/ceOr. or_step/ceAndT.nil andT_nil/ceAndT. andT_step/ceAnd. and_one and_step/ceEs.nil es_nil/ceEs. es_cons/ceIfs.nil ifs_nil/ceIfs. ifs_one/ceOpt.none opt_none/ceOpt. opt_some/ceSs.nil ss_nil/ceSs. ss_step/ceS.Return s_ret/ceS.If s_if/ceS.For s_forG s_forR s_for/ceS.Assign s_asg s_row s_tup s_setitem s_asgf/ceS.AugAssign s_aug s_augitem/ceS.Expr s_own s_push s_newrow/ceS.While s_while/turnL turn_ok turn_no/turnD turnD_ok turnD_no/turnF turnF_ok turnF_ret"
def rows (k:String):Option (List String):=(((tab.splitOn "/").map (·.splitOn " ")).find? fun r=>r.head! ==k).map jA
def oT (s:String):String:=(s.splitOn ".").getLast!
def MS (nm h:String):List String:=((rows (nm++"." ++h)).orElse fun _=>rows (nm++".")).getD []
def special (x:X):Bool:=match x with
| .app _ (.lit (.strVal s))=>vL s "len range sum list isinstance divmod"
| _=>false
def Pi (t:X):Bool:=(t.find? fun s=>vL (hd s) "Expr.ListComp Expr.DictComp Operator.Pow Operator.LShift Operator.RShift Operator.BitAnd" ||(hd s=="Expr.Call" &&s.getAppNumArgs==4&&hd (s.getArg! 0)=="Expr.Name" &&(s.getArg! 0).getAppNumArgs==2&&!special ((s.getArg! 0).getArg! 0))).isSome
def Ft:Nat->X->MetaM Bool
| 0,_=>pure false
| k+1,e=>do
  let t <-kw S e
  if vL (hd t) "D.int Int.ofNat Int.negSucc Nat.succ" then Ft k t.appArg! else return t.isRawNatLit ||hd t=="Nat.zero" ||t.nat?.isSome
def apart (a b:X):Bool:=
 let f (e:X):String:=if hd e=="Lake.inop" then "Lake.binop" else hd e
 let l:="Lake.itemsOf Lake.ownMeth Lake.ceCall Lake.methD Lake.subD Lake.iterLoop Lake.cmp Lake.binop"
 f a !=f b&&vL (f a) l&&vL (f b) l
def M0:List X->List X->MetaM Bool
| a::l,b::m=>do if <-M0 l m then O6 S a b else return false
| _,_=>pure true
def PO (a b:X):MetaM Bool:=if vL (hd a) "Lake.iterLoop Lake.subD" &&hd b==hd a then M0 S a.getAppArgs.toList b.getAppArgs.toList else O6 S a b
def Po:List X->MetaM (List (X×X×X×X))
| []=>pure []
| x::r=>do
  let t <-whnfR (<-instantiateMVars (<-inferType x))
  let l <-Po r
  return match t.eq? with
   | some (t,a,b)=>if a.hasExprMVar then l else (t,a,b,x)::l
   | none=>l
def KD (g:MVarId) (lhs rhs ty:X):List (X×X×X×X)->MetaM (Option R)
| []=>pure none
| (t,a,b,x)::l=>do
  if t==ty&&!apart lhs a then
   if <-PO S lhs a then
    if Pq b (<-instantiateMVars rhs) then return some none
    if <-isDefEq rhs b then return <-put g (<-mkEq lhs rhs) x
  KD g lhs rhs ty l
def OG (g:MVarId) (lhs rhs:X):MetaM (Option R):=do KD S g lhs rhs (<-inferType lhs) (<-Po (<-getLocalHyps).toList)
def zM (c:X):List (X×X×X×X)->MetaM (Option (X×X))
| []=>pure none
| (t,a,b,x)::l=>do
  if t.isConst&&vL (hd b) "Bool.true Bool.false" then
   if <-O6 S c a then return some (b,x)
  zM c l
def Ov (x:MetaM R):MetaM (Option R):=do
 let s <-saveState
 try
  match <-x with
  | some l=>return some (some l)
  | none=>s.restore;return some none
 catch _=>s.restore;return none
def EW (rec:MVarId->MetaM R):List MVarId->MetaM R
| []=>return some []
| x::l=>do
  if <-x.isAssigned then EW rec l
  else if !(<-isProp (<-instantiateMVars (<-x.getType))) then EW rec l
  else match <-rec x with
   | none=>return none
   | some a=>match <-EW rec l with
    | none=>return none
    | some b=>return some (a++b)
def Oy (rec:MVarId->MetaM R) (g:MVarId) (r:String):MetaM R:=do EW rec (<-g.apply (.const (.str `MP.Lake r) (<-mkFreshLevelMVars (<-getConstInfo (.str `MP.Lake r)).levelParams.length)) {newGoals:= .all})
def CF:List MVarId->MetaM Bool
| []=>pure false
| x::l=>do
  match (<-instantiateMVars (<-x.getType)).eq? with
  | some (_,a,b)=>
   if !(a.hasExprMVar ||b.hasExprMVar ||vL (hd a) "Lake.binop Lake.itemsOf Lake.iterLoop Lake.subD Lake.ceCall") then
    if <-(try MZ S a b catch _=>pure false) then return true
  | none=>pure ()
  CF l
def one (rec:MVarId->MetaM R) (g:MVarId) (lhs rhs t:X) (d:Nat) (r:String):MetaM R:=do
 let f <-Pb (lhs.getArg! 1) d
 let lhs':=mkAppN lhs.getAppFn ((lhs.getAppArgs.set! 1 (<-mkAdd f (mkNatLit d))).set! 4 t)
 let g' <-g.replaceTargetDefEq (<-mkEq lhs' rhs)
 let q <-mkFreshExprMVar (<-inferType rhs)
 let g2 <-mkFreshExprSyntheticOpaqueMVar (<-mkEq lhs' q)
 let gs <-withReducibleAndInstances (g2.mvarId!.apply (cn ("MP.Lake." ++r)) {newGoals:= .all})
 if !(<-isDefEq q rhs) then throwError "u"
 g'.assign g2
 match <-EW rec gs with
| none=>return none
| some l=>if <-CF S l then return none else return some l
def De (g:MVarId) (f:String->MetaM R) (strict:Bool):Bool->List String->MetaM R
| no,[]=>return if no then none else some [g]
| no,r::l=>do
  match <-Ov (f r) with
  | some (some l)=>return some l
  | some none=>De g f strict (strict ||l.isEmpty) l
  | none=>De g f strict no l
def orElse (x:MetaM (Option R)) (y:MetaM R):MetaM R:=do
 match <-x with
| some r=>return r
| none=>y
def Op (rec:MVarId->MetaM R) (g:MVarId):List Name->MetaM (Option R)
| []=>pure none
| s::l=>do
  match <-Ov (do EW rec (<-withReducible (g.apply (<-mkConstWithFreshMVarLevels s)))) with
  | some (some r)=>return some (some r)
  | _=>Op rec g l
def J8 (x:MetaM R):MetaM (Option R):=do
 match <-Ov (do
  match <-x with
  | some []=>return some []
  | _=>throwError "w") with
| some (some r)=>return some (some r)
| _=>return none
def leaf (rec:MVarId->MetaM R) (specs:List Name) (g:MVarId) (lhs rhs:X) (nm:String):MetaM R:=do
 let Sm:MetaM R:=return some [g]
 let ZX:=OG S g lhs rhs
 let arg (i:Nat):X:=lhs.getAppArgs.getD i lhs
 let fin:MetaM R:=orElse (zp S g lhs rhs) (orElse ZX Sm)
 let to (e:X):MetaM MVarId:=do g.replaceTargetDefEq (<-mkEq e rhs)
 match rows nm with
| some rs=>De g (Oy rec g) false false rs
| none=>
  if nm=="ceCall" then orElse (Op rec g specs) (if special (arg 2) then fin else Sm)
  else if nm=="bind" &&hd rhs=="Option.none" then orElse (J8 (Oy rec g "bind_none")) fin
  else if nm=="cmp" then orElse ZX fin
  else if nm=="contL" then
   if hd (<-kw S (arg 5))=="Option.none" then rec (<-to (mkAppN (cn "MP.Lake.iterLoop") (lhs.getAppArgs.extract 0 5))) else Sm
  else if nm=="iterLoop" then orElse ZX (do
   let ds <-kw S (arg 2)
   let h:=hd ds
   if vL h "List.nil List.cons" then Oy rec (<-to (mkAppN lhs.getAppFn (lhs.getAppArgs.set! 2 ds))) (if h=="List.nil" then "loop_nil" else "loop_cons") else Sm)
  else if nm=="itemsOf" then
   let a <-kw S (arg 0)
   if hd a !="D.rng" then fin else if (<-Ft S 80 (a.getArg! 0))&&(<-Ft S 80 (a.getArg! 1)) then fin else Sm
  else if nm=="binop" &&vL (hd (arg 0)) "Operator.Pow Operator.LShift Operator.RShift" then
   if (<-Ft S 80 (arg 1))&&(<-Ft S 80 (arg 2)) then fin else Sm
  else if vL nm "nameD lookup varD" then orElse ZX (do
   let s:=arg 2
   if nm=="nameD" &&hd s=="St.withRho" then
    if hd (<-whnfR (s.getArg! 0))=="St.comp" then orElse (zp S g lhs rhs) (orElse (J8 (Oy rec g "comp_free")) fin) else fin
   else fin)
  else fin
def go (specs:List Name):Nat->MVarId->MetaM R
| 0,g=>return some [g]
| k+1,g=>g.withContext do
  let Sm:MetaM R:=return some [g]
  let ty <-whnfR (<-instantiateMVars (<-g.getType))
  if <-(try withReducible g.assumption;pure true catch _=>pure false) then return some []
  if hd ty=="LE.le" &&hd ty.appArg! =="Lake.lim" then
   let a:=ty.appFn!.appArg!
   if a.hasExprMVar then return <-Sm
   let q <-(try kw S (mkApp2 (cn "Nat.ble") a ty.appArg!) catch _=>pure a)
   if hd q=="Bool.true" then
    g.assign (mkApp3 (cn "Nat.le_of_ble_eq_true") a ty.appArg! (<-mkEqRefl q))
    return some []
   else return <-Sm
  match ty.eq? with
  | none=>Sm
  | some (_,lhs,rhs)=>
   if lhs.hasExprMVar then return <-Sm
   let US:=go specs k
   let nm:=oT (hd lhs)
   if nm=="cond" then
    let c0:=lhs.getArg! 1
    let c <-kw S c0
    let es <-Po (<-getLocalHyps).toList
    match <-(if vL (hd c) "Bool.true Bool.false" then return some (c,<-mkEqRefl c) else zM S c0 es) with
    | none=>Sm
    | some (b,pf)=>
     let t:=hd b=="Bool.true"
     let g' <-mkFreshExprSyntheticOpaqueMVar (<-mkEq (lhs.getArg! (if t then 2 else 3)) rhs)
     g.assign (mkAppN (cn (if t then "MP.Lake.condT" else "MP.Lake.condF")) #[lhs.getArg! 0,c0,lhs.getArg! 2,lhs.getArg! 3,rhs,mkApp2 (.const `id [.zero]) (<-mkEq c0 b) pf,g'])
     US g'.mvarId!
   else if nm=="contS" then
    if hd (<-kw S (lhs.getArg! 4))=="Fl.next" then US (<-g.replaceTargetDefEq (<-mkEq (mkAppN (cn "MP.Lake.ceSs") #[lhs.getArg! 0,lhs.getArg! 1,lhs.getArg! 2,lhs.getArg! 5,lhs.getArg! 3,lhs.getArg! 6]) rhs)) else leaf S US specs g lhs rhs nm
   else if vL nm "ceE ceT ceEs ceOr ceAndT ceAnd ceIfs ceOpt ceSs ceS" then
    let t <-Pm S true 60 (<-kw S (lhs.getArg! 4))
    let h:=oT (hd t)
    let rs:=if hd rhs=="Option.none" then (rows ("none." ++h)).getD [] else MS nm h
    orElse (if Pi t then return none else zp S g lhs rhs) (De g (one S US g lhs rhs t (if vL h "For While" then 2 else 1)) true false rs)
   else leaf S US specs g lhs rhs nm
def all (specs:List Name):List MVarId->MetaM (List MVarId)
| []=>pure []
| g::l=>do
  let a <-(do
   if <-g.isAssigned then return []
   if !(<-(try isProp (<-instantiateMVars (<-g.getType)) catch _=>pure false)) then return [g]
   match <-Ov (go S specs 200 g) with
   | some (some r)=>return r
   | _=>return [g])
  return a++(<-all specs l)
def ce (specs:List Name:=[]):TacticM Unit:=do
 let gs <-getGoals
 let ts <-gs.mapM fun g=>do instantiateMVars (<-g.getType)
 let S:X->X <-(do match ts.findSome? fun t=>t.find? fun s=>hd s=="Lake.lwC" ||(hd s=="Lake.fsc" &&s.getAppNumArgs==2) with
  | some s=>
   let v <-kw id s
   return fun e=>e.replace fun x=>if x==s then some v else none
  | none=>return id)
 setGoals (<-all S specs gs)
 pruneSolvedGoals
def ceT:TacticM Unit:=do
 match <-getGoals with
| g::r=>setGoals ((<-all id [] [g])++r)
| []=>pure ()
end Wk
end MP.Lake
local macro_rules | `(tactic| symm) => `(tactic| run_tac MP.Lake.Wk.ce)
namespace MP.Lake
open PySem
noncomputable abbrev P1:bY:=ee
theorem im:∀ {n:Nat} {f:Str} {ps:List Str} {ds:List D} {g g1:G} {d:D} {QU:St} (hs:special f=none) (hf:o8 P1 f=some ⟨ps,fsc P1 f,fb P1 f⟩) (hc:(ps.length==ds.length&&!(fsc P1 f).isGenerator)=true) (h1:ceSs P1 n (fsc P1 f) ⟨ps.zip ds,[],none⟩ (fb P1 f) g=some (.ret d,QU,g1)),ceCall P1 (n+1) f ds g=some (d,g1):=by iterate 12 exact (Jk (fn:=⟨ps,fsc P1 f,fb P1 f⟩) hs hf hc h1)
theorem Iz:∀ (k:Nat) (a:Int),vy k a=(aN k).map fun i:Nat=>D.int (a+i):=by iterate 0 intro k;induction k with | zero=>intro _;exact rfl | succ k Qj=>intro a;(dsimp only [vy];rw [Qj (a+1),gO]);simp [kQ,kG,lh 1]
theorem p9:∀ {k:Nat} (h:k<=lim),itemsOf (.rng 0 (k:Int))=some ((aN k).map fun i:Nat=>D.int i):=by iterate 2
 unfold lim at h;have:yH 0 (k:Int)=true:=by unfold yH lim;simp only [decide_eq_true_eq];omega
 unfold itemsOf;dsimp only;simp only [this,if_true,Iz];simp
theorem uF:∀ l:List Int,sQ (l.map .int)=some l:=by iterate 0 intro l;induction l with | nil=>exact rfl | cons x l Qj=>exact f8 rfl (f8 (Qj) rfl)
theorem zD:∀ {b:Nat} {k:Int} (hb:lw (b:Int)=true) (h0:0<=k) (h:k<=1000000),binop .Pow (.int b) (.int k)=some (.int ((b:Int) ^ k.toNat)):=by iterate 5 exact f8 rfl (f8 rfl (if_pos ⟨h0,h,hb⟩))
theorem pU:∀ {xs:List D} {k:Nat} {d:D} (h:xs[k]? =some d),subD P1 (.lst xs) (.int (k:Int))=some d:=by iterate 4 exact f8 (show qq (.int (k:Int))=some k from f8 rfl (if_pos (az k))) h
theorem xu:∀ {a b:Int} (h:(lw b ||lw a)=true),binop .Mult (.int a) (.int b)=some (.int (a * b)):=by iterate 3 exact f8 rfl (f8 rfl (if_pos h))
theorem wY:∀ {a:Int} (h1: -1000<=a) (h2:a<=1000),lw a=true:=by iterate 3 unfold lw;simp only [decide_eq_true_eq];omega
theorem qH:∀ {n:Nat} {f:Str} {h:List D->G->Option (D×G)} {ds:List D} {g:G} {r:D×G} (hs:special f=some h) (hn:30<=n) (h1:h ds g=some r),ceCall P1 (n+1) f ds g=some r:=by iterate 9 show rz P1 (fs P1 n) n f ds g=_;unfold rz;rw [hs];exact f8 (oM (decide_eq_true hn)) h1
theorem Bn:∀ {l:List Int} {g:G} (h:∀ x∈l,x.natAbs<1099511627776),tC [.lst (l.map .int)] g=some (.int l.sum,g):=by iterate 3
 have:(l.all fun i=>decide (i.natAbs<1099511627776))=true:=ak.mpr fun x hx=>by simpa using h x hx
 exact f8 rfl (f8 rfl (f8 (uF l) (if_pos this)))
theorem JN:∀ {α:Type} {f:α->Int} {l:List α},l.map (fun k=>D.int (f k))=(l.map f).map D.int:=by iterate 3 simp
theorem LZ:o8 P1 "_law_number" =some ⟨["row"],fsc P1 "_law_number",fb P1 "_law_number"⟩:=by iterate 0 rfl'
noncomputable def EG (row:List Int):Int:=((aN row.length).map fun k=>row.getD k 0 * 64 ^ (row.length-1-k)).sum
theorem GO:∀ {x:Int} {j:Nat} (h0:0<=x) (h1:x<64) (hj:j<=4),(x * 64 ^ j).natAbs<1099511627776:=by iterate 5
 have h2:(64:Int) ^ j<=64 ^ 4:=by exact_mod_cast a8 (by decide) hj
 have h3:(0:Int)<=64 ^ j:=Int.pow_nonneg (by decide);have h4:x * 64 ^ j<=64 * 64 ^ 4:=Int.mul_le_mul (by omega) h2 h3 (by decide);have h5:0<=x * 64 ^ j:=ir h0 h3;have:(64:Int) * 64 ^ 4=1073741824:=by decide
 omega
theorem LU:∀ {m:Nat} {row:List Int} {g:G} (hl:row.length<=4) (hb:∀ x∈row,0<=x/\x<64),ceCall P1 (m+45) "_law_number" [.lst (row.map .int)] g=some (.int (EG row),g):=by iterate 5
 have hg:∀ k,0<=row.getD k 0/\row.getD k 0<64:=fun k=>by rw [bl];cases e:row[k]? with | none=>simp | some x=>exact hb x (bL e)
 apply im (by rfl') LZ (by rfl');symm
 ·rw [aG];exact p9 (by unfold lim;omega)
 ·refine qz (F:=fun k=> .int (row.getD k 0 * 64 ^ (row.length-1-k))) fun k hk acc=>?_;have hk:=cz.mp hk;symm
  ·exact pU (d:= .int (row.getD k 0)) (by simp [hk])
  ·exact zD (k:=((row.map D.int).length:Int)-1-k) (b:=64) rfl (by simp;omega) (by simp;omega)
  ·have e:(((row.map D.int).length:Int)-1-k).toNat=row.length-1-k:=by simp
   rw [e];exact xu (by rw [wY (a:=row.getD k 0) (by have:=hg k;omega) (by have:=hg k;omega),fM])
 ·simp [lim];omega
 ·symm
 ·refine qH (h:=tC) (by rfl') (by omega) ?_;rw [a9,JN];refine Bn fun x hx=>?_;obtain ⟨k,hk,rfl⟩:=aH.mp hx;have:=hg k;exact GO this.1 this.2 (by omega)
 ·symm
set_option maxRecDepth 100000
theorem Nn:o8 P1 "ISNONTERMINAL" =some ⟨["x"],fsc P1 "ISNONTERMINAL",fb P1 "ISNONTERMINAL"⟩:=by iterate 0 rfl'
theorem NH:∀ {m:Nat} {x:Int} {g:G},ceCall P1 (m+20) "ISNONTERMINAL" [.int x] g=some (.bool (decide (256<=x)),g):=by iterate 3 apply im (by rfl') Nn (by rfl');symm
theorem Lm:o8 P1 "ISEOF" =some ⟨["x"],fsc P1 "ISEOF",fb P1 "ISEOF"⟩:=by iterate 0 rfl'
theorem zw:∀ {m:Nat} {x:Int} {g:G},ceCall P1 (m+20) "ISEOF" [.int x] g=some (.bool (x==0),g):=by iterate 3 apply im (by rfl') Lm (by rfl');symm
theorem LL:o8 P1 "_div2n1n" =some ⟨["a","b","n"],fsc P1 "_div2n1n",fb P1 "_div2n1n"⟩:=by iterate 0 rfl'
theorem Lr:∀ {m:Nat} {a b:Int} {n:Nat} {g:G} (ha:dL a.natAbs<=4000) (hb:b≠0) (hs:lw b=true),ceCall P1 (m+45) "_div2n1n" [.int a,.int b,.int n] g=some (.tup [.int (aL a b),.int (aQ a b)],g):=by iterate 8 apply im (by rfl') LL (by rfl');symm;rw [decide_eq_true (by omega)];symm;refine qH (h:=vN) (by rfl') (by omega) ?_;refine f8 rfl (f8 rfl (f8 rfl (if_pos ⟨hb,hs⟩)));symm
noncomputable def pq (B:Nat) (v:Nat) (ds:List Nat):Nat:=ds.foldl (fun v d=>v * B+d) v
theorem qQ:∀ {B:Nat},∀ (ds:List Nat) (v:Nat),pq B v ds=v * B ^ ds.length+pq B 0 ds:=by iterate 1 intro ds;induction ds with | nil=>intro v;simp [pq] | cons d ds Qj=>intro v;show pq B (v * B+d) ds=v * B ^ (ds.length+1)+pq B (0 * B+d) ds;rw [Qj (v * B+d),Qj (0 * B+d),fQ,gH,fP,dM];rw [Nat.mul_assoc,bE B,aK]
theorem CG:∀ {B:Nat},∀ (ds:List Nat),(∀ d∈ds,d<B)->pq B 0 ds<B ^ ds.length:=by iterate 1
 intro ds;induction ds with
 | nil=>intro _;simp [pq]
 | cons d ds Qj=>
  intro h;show pq B (0 * B+d) ds<B ^ (ds.length+1);rw [qQ,fP,dM,fQ];have h1:=Qj fun x hx=>h x (by simp [hx]);have h2:=h d (by simp);calc d * B ^ ds.length+pq B 0 ds<d * B ^ ds.length+B ^ ds.length:=by omega
   _=(d+1) * B ^ ds.length:=by rw [gH,lL]
   _<=B * B ^ ds.length:=fg _ h2
   _=B ^ ds.length * B:=bE _ _
noncomputable def tZ:Nat->Nat->Nat->List Nat
| 0,_,_=>[]
| k+1,b,a=>a % b::tZ k b (a / b)
theorem JQ:∀ (k b a:Nat),pB k b a=(tZ k b a).map fun x:Nat=>(x:Int):=by iterate 0 intro k;induction k with | zero=>intro _ _;exact rfl | succ k Qj=>intro b a;(dsimp only [pB,tZ];simp [Qj])
theorem Bb:∀ (k b a:Nat),(tZ k b a).length=k:=by iterate 0 intro k;induction k with | zero=>intro _ _;exact rfl | succ k Qj=>intro b a;(dsimp only [tZ];simp [Qj])
theorem Jm:∀ {b:Nat} (hb:0<b),∀ (k a:Nat),∀ d∈tZ k b a,d<b:=by iterate 2
 intro k;induction k with
 | zero=>intro _ d h;(dsimp only [tZ] at h;simp at h)
 | succ k Qj=>
  intro a d h;(dsimp only [tZ] at h;simp only [aq] at h);rcases h with rfl | h
  ·exact bR _ hb
  ·exact Qj _ d h
theorem Eo:∀ {b:Nat},∀ (k a:Nat),a<b ^ k->pq b 0 (tZ k b a).reverse=a:=by iterate 1 intro k;induction k with | zero=>intro a h;simp at h;subst h;rfl | succ k Qj=>intro a h;have:a / b<b ^ k:=il (by rw [fQ,bE] at h;exact h);(dsimp only [tZ,pq];simp only [gm,iN,jB,mW]);have ih:=Qj (a / b) this;unfold pq at ih;rw [ih,bE];exact eB a b
theorem HS:∀ {B:Nat},∀ (l:List Nat),na (l.map fun x:Nat=>(x:Int)) (B:Int)=(pq B 0 l.reverse:Nat):=by iterate 1 intro l;induction l with | nil=>exact rfl | cons d l Qj=>rw [aB];dsimp only [na];simp only [gm,pq,iN,jB,mW,Qj];rw [fy,da,eQ,lh]
theorem vt:∀ {l:List Nat},(l.map fun x:Nat=>(x:Int)).map D.int=l.map fun x:Nat=>D.int x:=by iterate 1 simp
theorem KO:o8 P1 "_divmod_pos" =some ⟨["a","b"],fsc P1 "_divmod_pos",fb P1 "_divmod_pos"⟩:=by iterate 0 rfl'
noncomputable def Nl:Expr:=D4 (at_ (fb P1 "_divmod_pos") 4)
noncomputable def Nw:List Stmt:=pW (at_ (fb P1 "_divmod_pos") 4)
theorem Lk:∀ {a k:Nat} (ha:a<1000000000000) (hk:k<=60),binop .LShift (.int a) (.int k)=some (.int (a * 2 ^ k:Nat)):=by iterate 4
 have:lw (a:Int)=true:=by unfold lw;simp only [decide_eq_true_eq];omega
 have h:binop .LShift (.int a) (.int k)=some (.int (a * 2 ^ (k:Int).toNat)):=f8 rfl (f8 rfl (if_pos ⟨by omega,by omega,this⟩));rw [h,aP,da,eD];rfl
theorem Ir:∀ {a b:Nat},binop .Add (.int (a:Int)) (.int (b:Int))=some (.int ((a+b:Nat):Int)):=by iterate 2 exact (rfl)
theorem rC:∀ {xs:List D} {d:D} (h:xs.length<lim),ownMeth "append" xs [d]=some (xs++[d]):=by iterate 3
 have:ownMeth "append" xs [d]=if xs.length<lim then some (xs++[d]) else none:=by rfl'
 rw [this,if_pos h]
theorem HZ:∀ {m a b n:Nat} {g:G} (ha:a<2 ^ 1000) (hb:0<b) (hs:b<2 ^ 60),ceCall P1 (m+45) "_div2n1n" [.int a,.int b,.int n] g=some (.tup [.int (a / b:Nat),.int (a % b:Nat)],g):=by iterate 8
 have h1:dL a<=1000:=by
  unfold dL;split
  ·omega
  ·rename_i h0;exact (iz h0).mpr ha
 have h2:lw (b:Int)=true:=by unfold lw;simp only [decide_eq_true_eq];omega
 have:=Lr (m:=m) (a:=a) (b:=b) (n:=n) (g:=g) (by rw [fZ];omega) (by omega) h2;rw [this,aV _ (az _),aU _ (az _)];rfl
theorem GA:∀ {m n b:Nat} {g:G} (hn:n<=30) (h0:0<b) (hb:b<2 ^ n),∀ (ds:List Nat) (T:Qm) (r:Nat) (qs:List Nat),(∀ d∈ds,d<2 ^ n)->Qm.At T "n" (.int n)->Qm.At T "b" (.int b)->Qm.At T "r" (.int r)->T.lookup ("q_digits" :Str)=none->r<b->qs.length+ds.length<=100->
  ∃ T' r' Uu,iterLoop (turnF P1 (m+60) (fsc P1 "_divmod_pos") Nl Nw) (ds.map fun x:Nat=>D.int x) ⟨T,[],some ("q_digits",.lst (qs.map fun x:Nat=>D.int x))⟩ g=some (⟨T',[],some ("q_digits",.lst ((qs++Uu).map fun x:Nat=>D.int x))⟩,g,none)/\
   Qm.At T' "n" (.int n)/\T'.lookup ("q_digits" :Str)=none/\Qm.At T' "r" (.int (r':Nat))/\r'<b/\Uu.length=ds.length/\(∀ d∈Uu,d<2 ^ n)/\pq (2 ^ n) r ds=pq (2 ^ n) 0 Uu * b+r':=by iterate 7
 intro ds;induction ds with
 | nil=>intro T r qs _ h1 h2 h3 hq0 h4 _;exact ⟨T,r,[],by rw [aS];rfl,h1,hq0,h3,h4,rfl,by simp,by simp [pq]⟩
 | cons d ds Qj=>
  intro T r qs hd h1 h2 h3 hq0 h4 h5;have hx:r * 2 ^ n+d<2 ^ 1000:=by
   have h6:=hd d (by simp);have h7:(2:Nat) ^ n<=2 ^ 30:=a8 (by decide) hn;have h8:r * 2 ^ n<=2 ^ 30 * 2 ^ 30:=m9 (by omega) h7;have h9:(2:Nat) ^ 30 * 2 ^ 30+2 ^ 30<2 ^ 1000:=by decide
   omega
  have hr:r<1000000000000:=by
   have h7:(2:Nat) ^ n<=2 ^ 30:=a8 (by decide) hn;have:(2:Nat) ^ 30<1000000000000:=by decide
   omega
  have Vp:b<2 ^ 60:=by have h7:(2:Nat) ^ n<=2 ^ 60:=a8 (by decide) (by omega);omega
  have SH:turnF P1 (m+60) (fsc P1 "_divmod_pos") Nl Nw (.int d) ⟨T,[],some ("q_digits",.lst (qs.map fun x:Nat=>D.int x))⟩ g=some (⟨("r",.int ((r * 2 ^ n+d) % b:Nat))::("q_digit",.int ((r * 2 ^ n+d) / b:Nat))::("a_digit",.int d)::T,[],some ("q_digits",.lst ((qs.map fun x:Nat=>D.int x)++[.int ((r * 2 ^ n+d) / b:Nat)]))⟩,g,none):=by
   symm
   ·exact Lk hr (by omega)
   ·exact Ir
   ·exact HZ hx h0 Vp
   symm
   ·exact rC (by simp [lim] at *;omega)
   symm
  have hq:(r * 2 ^ n+d) / b<2 ^ n:=by
   refine il ?_;have h6:=hd d (by simp);calc r * 2 ^ n+d<r * 2 ^ n+2 ^ n:=by omega
    _=(r+1) * 2 ^ n:=by rw [gH,lL]
    _<=b * 2 ^ n:=fg _ h4
  obtain ⟨T',r',Uu,e1,e2,e0,e3,e4,e5,e6,e7⟩:=Qj (("r",.int ((r * 2 ^ n+d) % b:Nat))::("q_digit",.int ((r * 2 ^ n+d) / b:Nat))::("a_digit",.int d)::T) ((r * 2 ^ n+d) % b) (qs++[(r * 2 ^ n+d) / b]) (fun x hx=>hd x (by simp [hx])) (by symm) (by symm) (by symm) (by symm) (bR _ h0) (by simp at h5 ⊢;omega);refine ⟨T',r',(r * 2 ^ n+d) / b::Uu,?_,e2,e0,e3,e4,by simp [e5],fun x hx=>?_,?_⟩
  ·rw [aB];refine f8 SH ?_;simp only [dG,aB,iU,bK,kL] at e1 ⊢;exact e1
  ·rcases aq.mp hx with rfl | hx
   ·exact hq
   ·exact e6 x hx
  ·show pq (2 ^ n) (r * 2 ^ n+d) ds=pq (2 ^ n) (0 * 2 ^ n+(r * 2 ^ n+d) / b) Uu * b+r';rw [qQ,fP,dM,qQ Uu];rw [qQ] at e7;have h6:=eB (r * 2 ^ n+d) b;rw [e5];generalize (2 ^ n) ^ ds.length=P at e7 ⊢;generalize r * 2 ^ n+d=X at h6 e7 ⊢;have h8:X * P=X / b * b * P+X % b * P:=by rw [<-gH,bE (X / b) b,h6]
   have h9:(X / b * P+pq (2 ^ n) 0 Uu) * b=X / b * b * P+pq (2 ^ n) 0 Uu * b:=by rw [gH,Nat.mul_right_comm]
   omega
theorem Du:∀ {a b:Nat} (ha:a<2 ^ 30) (hb:b<2 ^ 30) (h0:0<b),1<=dL b/\dL b<=30/\b<2 ^ dL b/\a<(2 ^ dL b) ^ ((dL a+dL b-1) / dL b)/\(dL a+dL b-1) / dL b * dL b<=60/\(dL a+dL b-1) / dL b<=60:=by iterate 5
 have lt:∀ x:Nat,x<2 ^ dL x:=fun x=>by
  unfold dL;split
  ·subst_vars;decide
  ·exact mD
 have le:∀ x:Nat,x<2 ^ 30->dL x<=30:=fun x h=>by
  unfold dL;split
  ·omega
  ·rename_i h0;exact (iz h0).mpr h
 have h1:1<=dL b:=by unfold dL;rw [if_neg (by omega)];omega
 have h2:=lt a;have h3:=lt b;have h4:=le a ha;have h5:=le b hb;generalize dL b=n at *;generalize dL a=k at *;have h6:=eB (k+n-1) n;have h7:=bR (k+n-1) (show 0<n by omega);have h8:(k+n-1) / n * n<=60:=by rw [bE];omega
 refine ⟨h1,h5,h3,?_,h8,bw (gG _ (by omega)) h8⟩;rw [<-jN];exact dB h2 (a8 (by decide) (by omega))
theorem GN:∀ {k a n:Nat} {g:G} (hk:30<=k) (ha:a<2 ^ 60) (h1:1<=n) (h2:n<=60),ceCall P1 (k+1) "_int2digits" [.int a,.int n] g=some (.lst ((tZ ((dL a+n-1) / n) (2 ^ n) a).map fun x:Nat=>D.int x),g):=by iterate 8 refine qH (h:=qL) (by rfl') hk ?_;refine f8 rfl (f8 rfl (f8 rfl ?_));simp only [aP];rw [if_pos ⟨by omega,by omega,by omega,by omega⟩,JQ,vt]
theorem GH:∀ {k n:Nat} {l:List Nat} {g:G} (hk:30<=k) (h1:1<=n) (h2:l.length * n<=60) (h3:∀ d∈l,d<2 ^ n),ceCall P1 (k+1) "_digits2int" [.lst (l.map fun x:Nat=>D.int x),.int n] g=some (.int (pq (2 ^ n) 0 l.reverse:Nat),g):=by iterate 8
 refine qH (h:=qM) (by rfl') hk ?_;have Qy:((l.map fun x:Nat=>(x:Int)).all fun d=>decide (0<=d/\d<2 ^ n))=true:=ak.mpr fun d hd=>by obtain ⟨x,hx,rfl⟩:=aH.mp hd;have:=h3 x hx;simp only [decide_eq_true_eq];exact ⟨az _,by exact_mod_cast this⟩
 rw [<-vt];refine f8 rfl (f8 rfl (f8 rfl (f8 (uF _) ?_)));simp only [aP,aG];rw [if_pos ⟨by omega,h2,Qy⟩,<-HS,eD];rfl
theorem JJ:∀ {m a b n K:Nat} {g:G} (hn:n=dL b) (hK:K=(dL a+n-1) / n) (ha:a<2 ^ 60) (h0:0<b) (n1:1<=n) (n2:n<=30) (n3:b<2 ^ n) (n4:a<(2 ^ n) ^ K) (n5:K * n<=60) (n6:K<=60),∃ QU,ceSs P1 (m+89) (fsc P1 "_divmod_pos") ⟨([("a",.int a),("b",.int b)]:Qm),[],none⟩ (fb P1 "_divmod_pos") g=some (.ret (.tup [.int (a / b:Nat),.int (a % b:Nat)]),QU,g):=by iterate 16
 obtain ⟨T',r',Uu,e1,e2,e0,e3,e4,e5,e6,e7⟩:=GA (m:=m+22) (g:=g) n2 h0 n3 (tZ K (2 ^ n) a).reverse (("r",.int 0)::("a_digits",.lst ((tZ K (2 ^ n) a).map fun x:Nat=>D.int x))::("n",.int n)::("a",.int a)::("b",.int b)::[]) 0 [] (fun d hd=>Jm (dk (by decide)) K a d (dm.mp hd)) (by rfl') (by rfl') (by rfl') (by rfl') h0 (by simp [Bb];omega);rw [Eo K a n4] at e7;rw [dq] at e1;rw [ed,Bb] at e5;have hq:a / b=pq (2 ^ n) 0 Uu:=by rw [e7,bE];exact (ia h0 _ _).trans (by rw [eY e4];rfl)
 have hr:a % b=r':=by rw [e7,bE,jO];exact gM e4
 rw [hq,hr];apply eK;symm
 ·rw [fZ,<-hn];exact GN (by omega) ha n1 (by omega)
 rw [fZ,<-hn,<-hK];symm
 ·rw [<-dq,a9];have:=GH (k:=m+79) (n:=n) (l:=Uu.reverse) (g:=g) (by omega) n1 (by rw [ed,e5];exact n5) (fun d hd=>e6 d (dm.mp hd));rw [cu] at this;exact this
 symm
theorem LH:∀ {m a b:Nat} {g:G} (ha:a<2 ^ 30) (hb:b<2 ^ 30) (h0:0<b),ceCall P1 (m+90) "_divmod_pos" [.int a,.int b] g=some (.tup [.int (a / b:Nat),.int (a % b:Nat)],g):=by iterate 7 obtain ⟨n1,n2,n3,n4,n5,n6⟩:=Du ha hb h0;obtain ⟨QU,h⟩:=JJ (m:=m) (g:=g) rfl rfl (by omega) h0 n1 n2 n3 n4 n5 n6;exact im (by rfl') KO (by rfl') h
theorem B0:o8 P1 "int_divmod" =some ⟨["a","b"],fsc P1 "int_divmod",fb P1 "int_divmod"⟩:=by iterate 0 rfl'
theorem zN:∀ {m a b:Nat} {g:G} (ha:a<2 ^ 30) (hb:b<2 ^ 30) (h0:0<b),ceCall P1 (m+110) "int_divmod" [.int a,.int b] g=some (.tup [.int (a / b:Nat),.int (a % b:Nat)],g):=by iterate 7
 have c1:((b:Int)==0)=false:=by simp;omega
 have c2:decide ((b:Int)<0)=false:=by simp
 have c3:decide ((a:Int)<0)=false:=by simp
 apply im (by rfl') B0 (by rfl');run_tac Wk.ce [``LH]
theorem OY:∀ {a b:Nat} (h0:0<b), -((a / b:Nat):Int)-1=aL (-(a:Int)-1) b/\(b:Int)+(-((a % b:Nat):Int)-1)=aQ (-(a:Int)-1) b:=by iterate 3
 have h1:=eB a b;have h2:=bR a h0;have h3:(b:Int) * ((a / b:Nat):Int)+((a % b:Nat):Int)=a:=by exact_mod_cast h1
 rw [aV _ (az _),aU _ (az _)];have:=lD (a:= -(a:Int)-1) (b:=b) (r:=(b:Int)+(-((a % b:Nat):Int)-1)) (q:= -((a / b:Nat):Int)-1) (by omega);have h4:(b:Int) * (-((a / b:Nat):Int)-1)= -((b:Int) * ((a / b:Nat):Int))-b:=by rw [Int.mul_sub,Int.mul_neg,Int.mul_one]
 obtain ⟨h5,h6⟩:=this.mpr ⟨by rw [h4];omega,by omega,by omega⟩;exact ⟨h5.symm,h6.symm⟩
theorem Mi:∀ {m a b:Nat} {g:G} (ha:a<2 ^ 30) (hb:b<2 ^ 30) (h0:0<b),ceCall P1 (m+130) "int_divmod" [.int (-(a:Int)-1),.int b] g=some (.tup [.int (-((a / b:Nat):Int)-1),.int ((b:Int)+(-((a % b:Nat):Int)-1))],g):=by iterate 7
 have c1:((b:Int)==0)=false:=by simp;omega
 have c2:decide ((b:Int)<0)=false:=by simp
 have c3:decide (-(a:Int)-1<0)=true:=by simp;omega
 have e: -(-(a:Int)-1)-1=a:=by omega
 apply im (by rfl') B0 (by rfl');symm
 ·rw [e];exact zN ha hb h0
 symm
theorem BF:∀ {m:Nat} {a:Int} {b:Nat} {g:G} (h1: -2 ^ 30<=a) (h2:a<2 ^ 30) (hb:b<2 ^ 30) (h0:0<b),ceCall P1 (m+130) "int_divmod" [.int a,.int b] g=some (.tup [.int (aL a b),.int (aQ a b)],g):=by iterate 8
 cases a with
 | ofNat k=>have hk:(k:Int)<2 ^ 30:=h2;have:=zN (m:=m+20) (a:=k) (g:=g) (by omega) hb h0;rw [show aL (Int.ofNat k) b=((k / b:Nat):Int) from by rw [aV _ (az _)];rfl,show aQ (Int.ofNat k) b=((k % b:Nat):Int) from by rw [aU _ (az _)];rfl];exact this
 | negSucc k=>
  have:=Mi (m:=m) (a:=k) (g:=g) (by omega) hb h0;have e:Int.negSucc k= -(k:Int)-1:=by omega
  obtain ⟨n1,n2⟩:=OY (a:=k) h0;rw [e,<-n1,<-n2];exact this
theorem CW:∀ {m:Nat} {a:Int} {b:Nat} {g:G} (h1: -2 ^ 30<a) (h2:a<=2 ^ 30) (hb:b<2 ^ 30) (h0:0<b),ceCall P1 (m+150) "int_divmod" [.int a,.int (-(b:Int))] g=some (.tup [.int (aL (-a) b),.int (-(aQ (-a) b))],g):=by iterate 8
 have c1:((-(b:Int))==0)=false:=by simp;omega
 have c2:decide (-(b:Int)<0)=true:=by simp;omega
 have e: -(-(b:Int))=b:=by omega
 apply im (by rfl') B0 (by rfl');symm
 ·rw [e];exact BF (by omega) (by omega) hb h0
 symm
set_option genCtorIdx true in
inductive BT where
| leaf (k:Nat)
| node (l r:BT)
theorem mm6:Nonempty BT:=by iterate 0 exact (⟨.leaf 0⟩)
noncomputable def BT.d:BT->D
| .leaf k=> .int k
| .node l r=> .lst [l.d,r.d]
noncomputable def shapes:List (List BT):=
 let n:=BT.node
 let f:=BT.leaf
 [[n (n (f 0) (f 1)) (f 2),n (f 0) (n (f 1) (f 2))],
  [n (n (n (f 0) (f 1)) (f 2)) (f 3),n (n (f 0) (n (f 1) (f 2))) (f 3),n (n (f 0) (f 1)) (n (f 2) (f 3)),n (f 0) (n (n (f 1) (f 2)) (f 3)),n (f 0) (n (f 1) (n (f 2) (f 3)))]]
noncomputable def qV (four:Bool) (h:Nat):BT:=if four then ((shapes.getD 1 []).getD (h % 5) (.leaf 0)) else ((shapes.getD 0 []).getD (h % 2) (.leaf 0))
theorem yB:∀ {k:Nat} (h:k<5),k=0\/k=1\/k=2\/k=3\/k=4:=by iterate 2 omega
theorem Dm:o8 P1 "_law_tree" =some ⟨["count","number"],fsc P1 "_law_tree",fb P1 "_law_tree"⟩:=by iterate 0 rfl'
theorem Dj:∀ {m h:Nat} {four:Bool} {g:G},ceCall P1 (m+30) "_law_tree" [.int (if four then 4 else 3),.int h] g=some ((qV four h).d,g):=by iterate 4
 cases four with
 | false=>
  have e:aQ (h:Int) 2=((h % 2:Nat):Int):=by rw [aU _ (by decide)];rfl
  apply im (by rfl') Dm (by rfl');symm
  ·rw [e];refine pU (d:=(qV false h).d) ?_;unfold qV;rcases dU h with h0 | h0<;>rw [h0]<;>rfl
  symm
 | true=>
  have e:aQ (h:Int) 5=((h % 5:Nat):Int):=by rw [aU _ (by decide)];rfl
  apply im (by rfl') Dm (by rfl');symm
  ·rw [e];refine pU (d:=(qV true h).d) ?_;unfold qV;rcases yB (bR h (by decide:0<5)) with h0 | h0 | h0 | h0 | h0<;>rw [h0]<;>rfl
  symm
noncomputable def BT.row {α:Type} (o c k:α) (f:Nat->α):BT->List α
| .leaf i=>[f i]
| .node l r=>[o]++l.row o c k f++[c]++r.row o c k f++[k]
noncomputable def BT.dep:BT->Nat
| .leaf _=>0
| .node l r=>max l.dep r.dep+1
noncomputable def SM:List BT:=shapes.getD 0 []
noncomputable def SK:List BT:=shapes.getD 1 []
theorem yS:∀ (four:Bool) (h:Nat),(four=false/\qV four h∈SM)\/(four=true/\qV four h∈SK):=by iterate 2
 cases four with
 | false=>refine .inl ⟨rfl,?_⟩;unfold qV;rcases dU h with h0 | h0<;>rw [h0]<;>first | exact .head _ | exact .tail _ (.head _)
 | true=>refine .inr ⟨rfl,?_⟩;unfold qV;rcases yB (bR h (by decide:0<5)) with h0 | h0 | h0 | h0 | h0<;>rw [h0]<;>first | exact .head _ | exact .tail _ (.head _) | exact .tail _ (.tail _ (.head _)) | exact .tail _ (.tail _ (.tail _ (.head _))) | exact .tail _ (.tail _ (.tail _ (.tail _ (.head _))))
theorem sJ:∀ {P:BT->Prop} (h:P (.node (.node (.leaf 0) (.leaf 1)) (.leaf 2))/\P (.node (.leaf 0) (.node (.leaf 1) (.leaf 2)))),∀ t∈SM,P t:=by iterate 2
 exact (fun t ht=>by
 simp only [SM,shapes,ly,aq,aO,or_false] at ht;rcases ht with rfl | rfl
 ·exact h.1
 ·exact h.2)
theorem sN:∀ {P:BT->Prop} (h:P (.node (.node (.node (.leaf 0) (.leaf 1)) (.leaf 2)) (.leaf 3))/\P (.node (.node (.leaf 0) (.node (.leaf 1) (.leaf 2))) (.leaf 3))/\P (.node (.node (.leaf 0) (.leaf 1)) (.node (.leaf 2) (.leaf 3)))/\
  P (.node (.leaf 0) (.node (.node (.leaf 1) (.leaf 2)) (.leaf 3)))/\P (.node (.leaf 0) (.node (.leaf 1) (.node (.leaf 2) (.leaf 3))))),∀ t∈SK,P t:=by iterate 2
 exact (fun t ht=>by
 simp only [SK,shapes,ly,List.getD_cons_succ,aq,aO,or_false] at ht;rcases ht with rfl | rfl | rfl | rfl | rfl
 ·exact h.1
 ·exact h.2.1
 ·exact h.2.2.1
 ·exact h.2.2.2.1
 ·exact h.2.2.2.2)
noncomputable def y7 (t:BT) (o c k:D) (lv:List D):List D:=t.row o c k fun i=>lv.getD i .none
theorem N6:∀ {m:Nat} {x y z o c k:D} {g:G},∀ t∈SM,ceCall P1 (m+90) "_law_row" [t.d,.lst [x,y,z],.lst [o,c,k]] g=some (.lst (y7 t o c k [x,y,z]),g):=by iterate 8 exact (sJ ⟨by rfl',by rfl'⟩)
theorem MI:∀ {m:Nat} {x y z u o c k:D} {g:G},∀ t∈SK,ceCall P1 (m+90) "_law_row" [t.d,.lst [x,y,z,u],.lst [o,c,k]] g=some (.lst (y7 t o c k [x,y,z,u]),g):=by iterate 9 exact (sN ⟨by rfl',by rfl',by rfl',by rfl',by rfl'⟩)
noncomputable def BT.words:BT->List (Int×List Nat)
| .leaf i=>[(1,[i])]
| .node l r=>(l.words.flatMap fun a=>r.words.map fun b=>(a.1 * b.1,a.2++b.2))++(r.words.flatMap fun b=>l.words.map fun a=>(-a.1 * b.1,b.2++a.2))
noncomputable def CX (cs:List Int) (w:Int×List Nat):D:= .tup [.int w.1,.lst (w.2.map fun i=> .int (cs.getD i 0))]
theorem Md:∀ {m:Nat} {x y z:Int} {g:G},∀ t∈SM,ceCall P1 (m+90) "_law_words" [t.d,.lst [.int x,.int y,.int z]] g=some (.lst (t.words.map (CX [x,y,z])),g):=by iterate 5 exact (sJ ⟨by rfl',by rfl'⟩)
theorem LC:∀ {m:Nat} {x y z u:Int} {g:G},∀ t∈SK,ceCall P1 (m+90) "_law_words" [t.d,.lst [.int x,.int y,.int z,.int u]] g=some (.lst (t.words.map (CX [x,y,z,u])),g):=by iterate 6 exact (sN ⟨by rfl',by rfl',by rfl',by rfl',by rfl'⟩)
noncomputable def AF (ws:List (Int×Int)) (kv:List (Int×Int)):List (Int×Int):=ws.foldl (fun kv w=>put w.2 ((kv.lookup w.2).getD 0+w.1) kv) kv
theorem G1:∀ (k v:Int),∀ kv:List (Int×Int),(put k v kv).length<=kv.length+1:=by iterate 2
 intro kv;induction kv with
 | nil=>(dsimp only [put];simp)
 | cons p r Qj=>
  dsimp only [put];split
  ·simp
  ·have:=Qj;simp;omega
theorem JF:o8 P1 "_law_sums" =some ⟨["words"],fsc P1 "_law_sums",fb P1 "_law_sums"⟩:=by iterate 0 rfl'
noncomputable def Nt:Expr:=D4 (at_ (fb P1 "_law_sums") 1)
noncomputable def NY:List Stmt:=pW (at_ (fb P1 "_law_sums") 1)
noncomputable def re (w:Int×Int):D:= .tup [.int w.1,.int w.2]
theorem DG:∀ {m:Nat} {g:G},∀ (ws:List (Int×Int)) (T:Qm) (kv:List (Int×Int)),kv.length+ws.length<1000->T.lookup ("sums" :Str)=none->∃ T',iterLoop (turnF P1 (m+40) (fsc P1 "_law_sums") Nt NY) (ws.map re) ⟨T,[],some ("sums",.QC kv)⟩ g=some (⟨T',[],some ("sums",.QC (AF ws kv))⟩,g,none):=by iterate 2
 intro ws;induction ws with
 | nil=>intro T kv _ _;exact ⟨T,by first | rfl | (rw [aS];rfl)⟩
 | cons w ws Qj=>
  intro T kv hl hT;have SH:turnF P1 (m+40) (fsc P1 "_law_sums") Nt NY (re w) ⟨T,[],some ("sums",.QC kv)⟩ g=some (⟨("number",.int w.2)::("sign",.int w.1)::T,[],some ("sums",.QC (put w.2 ((kv.lookup w.2).getD 0+w.1) kv))⟩,g,none):=by
   have h3:kv.length<lim:=by simp at hl;unfold lim;omega
   symm
  have:=G1 w.2 ((kv.lookup w.2).getD 0+w.1) kv;obtain ⟨T',e⟩:=Qj (("number",.int w.2)::("sign",.int w.1)::T) (put w.2 ((kv.lookup w.2).getD 0+w.1) kv) (by simp at hl;omega) (by symm);refine ⟨T',?_⟩;rw [aB,ol SH];exact e
theorem wT:∀ {m:Nat} {g:G} {ws:List (Int×Int)} (hl:ws.length<1000),ceCall P1 (m+50) "_law_sums" [.lst (ws.map re)] g=some (.QC (AF ws []),g):=by iterate 4 obtain ⟨T',e⟩:=DG (m:=m+5) (g:=g) ws [("words",.lst (ws.map re))] [] (by simpa using hl) (by rfl');apply im (by rfl') JF (by rfl');symm
noncomputable def ca (row:List Nat):Nat:=pq 64 0 row
theorem Lc:∀ (row:List Nat),row.length<=4->EG (row.map fun x:Nat=>(x:Int))=ca row
 | [],_=>rfl
 | [a],_=>by simp [EG,ca,pq,dF]
 | [a,b],_=>by simp [EG,ca,pq,dF]
 | [a,b,c],_=>by simp [EG,ca,pq,dF];omega
 | [a,b,c,d],_=>by simp [EG,ca,pq,dF];omega
 | _::_::_::_::_::_,h=>by simp at h
noncomputable def pk (row:List Nat):D:= .lst (row.map fun x:Nat=>D.int x)
theorem rX:∀ {m:Nat} {row:List Nat} {g:G} (hl:row.length<=4) (hb:∀ x∈row,x<64),ceCall P1 (m+45) "_law_number" [pk row] g=some (.int (ca row:Nat),g):=by iterate 5 have:=LU (m:=m) (row:=row.map fun x:Nat=>(x:Int)) (g:=g) (by simpa using hl) (fun x hx=>by obtain ⟨y,hy,rfl⟩:=aH.mp hx;have:=hb y hy;omega);rw [Lc row hl] at this;rw [vt] at this;exact this
theorem rY:∀ {row:List Nat} (hb:∀ x∈row,x<64),ca row<64 ^ row.length:=by iterate 2 exact (CG row hb)
theorem Dk:∀ {B:Nat} (hB:0<B),∀ (r:List Nat),(∀ x∈r,x<B)->tZ r.length B (pq B 0 r.reverse)=r:=by iterate 2
 intro r;induction r with
 | nil=>intro _;exact rfl
 | cons x r Qj=>
  intro h;have hx:=h x (by simp);have e:pq B 0 (x::r).reverse=pq B 0 r.reverse * B+x:=by simp [pq]
  rw [e];show (pq B 0 r.reverse * B+x) % B::tZ r.length B ((pq B 0 r.reverse * B+x) / B)=_;rw [bE,jO,gM hx,ia hB,eY hx,ib,Qj fun y hy=>h y (by simp [hy])]
theorem Gm:∀ {row:List Nat} {a:Nat} (h0:0<a) (hb:∀ x∈a::row,x<64),(dL (ca (a::row))+6-1) / 6=row.length+1:=by iterate 4
 have h1:=rY hb;have h2:64 ^ row.length<=ca (a::row):=by show _<=pq 64 (0 * 64+a) row;rw [qQ,fP,dM];exact bw (kI _ h0) (d9 _ _)
 have hp:0<64 ^ row.length:=dk (by decide);have Rl:ca (a::row)≠0:=by omega
 have e1:(64:Nat) ^ row.length=2 ^ (6 * row.length):=by rw [jN]
 have e2:(64:Nat) ^ (row.length+1)=2 ^ (6 * row.length+6):=by rw [show 6 * row.length+6=6 * (row.length+1) from by omega,jN]
 simp only [aI] at h1;rw [e2] at h1;rw [e1] at h2;have h3:6 * row.length<=nA (ca (a::row)):=(Nat.le_log2 Rl).mpr h2;have h4:nA (ca (a::row))<6 * row.length+6:=(iz Rl).mpr h1;unfold dL;rw [if_neg Rl];omega
theorem zH:∀ {k a:Nat} {row:List Nat} {g:G} (hk:30<=k) (h0:0<a) (hb:∀ x∈a::row,x<64) (hl:row.length<=4),ceCall P1 (k+1) "_int2digits" [.int (ca (a::row):Nat),.int 6] g=some (pk (a::row).reverse,g):=by iterate 8
 have h1:=rY hb;have h2:(64:Nat) ^ (row.length+1)<=64 ^ 5:=a8 (by decide) (by omega);have:=GN (k:=k) (a:=ca (a::row)) (n:=6) (g:=g) hk (by
  have h3:(64:Nat) ^ 5<2 ^ 60:=by decide
  exact dB h1 (bw h2 (fU h3))) (by decide) (by decide)
 rw [Gm h0 hb] at this;have e:=Dk (B:=2 ^ 6) (by decide) (a::row).reverse (fun x hx=>hb x (dm.mp hx));rw [cu,ed] at e;rw [show tZ (row.length+1) (2 ^ 6) (ca (a::row))=(a::row).reverse from e] at this;exact this
noncomputable def w0 {α:Type}:List (Int×List α)->List α->List (Int×List α)
| ws,[]=>ws
| ws,y::r=>w0 (ws.map (fun w=>(w.1,w.2++[y]))++ws.map fun w=>(-w.1,y::w.2)) r
noncomputable def yw {α:Type}:List α->List (Int×List α)
| []=>[]
| x::r=>w0 [(1,[x])] r
noncomputable def Km:List (Int×Int)->Nat->List Int->List (Int×Int)
| ws,_,[]=>ws
| ws,k,y::r=>Km (ws.map (fun w=>(w.1,w.2 * 64+y))++ws.map fun w=>(-w.1,y * 64 ^ k+w.2)) (k+1) r
theorem Kz:o8 P1 "_law_from_left" =some ⟨["number"],fsc P1 "_law_from_left",fb P1 "_law_from_left"⟩:=by iterate 0 rfl'
theorem Qe:∀ {m a b c:Nat} {g:G} (h0:0<a) (hb:∀ x∈[a,b,c],x<64),ceCall P1 (m+60) "_law_from_left" [.int (ca [a,b,c]:Nat)] g=some (.lst ((Km [(1,(a:Int))] 1 [(b:Int),(c:Int)]).map re),g):=by iterate 7
 apply im (by rfl') Kz (by rfl');symm
 ·exact zH (by omega) h0 hb (by simp)
 symm
theorem PQ:∀ {m a b c d:Nat} {g:G} (h0:0<a) (hb:∀ x∈[a,b,c,d],x<64),ceCall P1 (m+60) "_law_from_left" [.int (ca [a,b,c,d]:Nat)] g=some (.lst ((Km [(1,(a:Int))] 1 [(b:Int),(c:Int),(d:Int)]).map re),g):=by iterate 8
 apply im (by rfl') Kz (by rfl');symm
 ·exact zH (by omega) h0 hb (by simp)
 symm
noncomputable def rE (w:Int×List Nat):Int×Int:=(w.1,(ca w.2:Nat))
theorem Su:(∀ ws k y r,Km ws k (y::r)=Km (ws.map (fun w=>(w.1,w.2 * 64+y))++ws.map fun w=>(-w.1,y * 64 ^ k+w.2)) (k+1) r)/\(∀ ws k,Km ws k []=ws)/\(∀ (x:Nat) r,yw (x::r)=w0 [(1,[x])] r)/\(∀ (ws:List (Int×List Nat)) y r,w0 ws (y::r)=w0 (ws.map (fun w=>(w.1,w.2++[y]))++ws.map fun w=>(-w.1,y::w.2)) r)/\∀ ws:List (Int×List Nat),w0 ws []=ws:=by iterate 0 exact (⟨fun _ _ _ _=>rfl,fun _ _=>rfl,fun _ _=>rfl,fun _ _ _=>rfl,fun _=>rfl⟩)
theorem Pn:∀ (a b c:Nat),Km [(1,(a:Int))] 1 [(b:Int),(c:Int)]=(yw [a,b,c]).map rE:=by iterate 3 simp [Su,ca,pq,rE];omega
theorem Pl:∀ (a b c d:Nat),Km [(1,(a:Int))] 1 [(b:Int),(c:Int),(d:Int)]=(yw [a,b,c,d]).map rE:=by iterate 4 simp [Su,ca,pq,rE];omega
theorem JW:∀ {α:Type} {l:List α} (h:l.length=3),∃ a b c,l=[a,b,c]:=by iterate 3 obtain ⟨a,l,rfl⟩:=bT h;obtain ⟨b,l,rfl⟩:=bT (cJ h);obtain ⟨c,l,rfl⟩:=bT (cJ (cJ h));obtain rfl:=gB.mp (cJ (cJ (cJ h)));exact ⟨a,b,c,rfl⟩
theorem Nf:∀ {m:Nat} {row:List Nat} {g:G} (hr:row.length=3\/row.length=4) (hb:∀ x∈row,0<x/\x<64),ceCall P1 (m+60) "_law_from_left" [.int (ca row:Nat)] g=some (.lst (((yw row).map rE).map re),g):=by iterate 5
 rcases hr with hr | hr
 ·obtain ⟨a,b,c,rfl⟩:=JW hr;rw [<-Pn];exact Qe (hb a (by simp)).1 fun x hx=>(hb x hx).2
 ·obtain ⟨a,r,rfl⟩:=bT hr;obtain ⟨b,c,d,rfl⟩:=JW (cJ hr);rw [<-Pl];exact PQ (hb a (by simp)).1 fun x hx=>(hb x hx).2
noncomputable def Lt (L:Nat) (r:List Nat):Prop:=r.length=L/\∀ x∈r,0<x/\x<64
theorem Lt.lt:∀ {L:Nat} {r:List Nat} (h:Lt L r),∀ x∈r,x<64:=by iterate 3 exact (fun x hx=>(h.2 x hx).2)
theorem xr:∀ {L:Nat} {r s:List Nat} (hr:Lt L r) (hs:Lt L s) (h:ca r=ca s),r=s:=by iterate 6
 have e:∀ t:List Nat,Lt L t->tZ L 64 (ca t)=t.reverse:=fun t ht=>by have:=Dk (B:=64) (by decide) t.reverse fun x hx=>ht.lt x (dm.mp hx);rw [cu,ed,ht.1] at this;exact this
 have h1:=e r hr;rw [h,e s hs] at h1;exact (List.reverse_inj.mp h1).symm
noncomputable abbrev KV:=List (List Nat×Int)
noncomputable def kt (kv:KV):List (Int×Int):=kv.map fun p=>(((ca p.1:Nat):Int),p.2)
noncomputable def q8 (k:List Nat) (v:Int):KV->KV
| []=>[(k,v)]
| p::r=>if p.1=k then (k,v)::r else p::q8 k v r
noncomputable def rJ (ws:List (Int×List Nat)) (kv:KV):KV:=ws.foldl (fun kv w=>q8 w.2 ((kv.lookup w.2).getD 0+w.1) kv) kv
noncomputable def KL (L:Nat) (kv:KV):Prop:=∀ p∈kv,Lt L p.1
theorem pt:∀ {L:Nat} {k:List Nat} (hk:Lt L k),∀ {kv:KV},KL L kv->(kt kv).lookup ((ca k:Nat):Int)=kv.lookup k:=by iterate 3
 intro kv;induction kv with
 | nil=>intro _;exact rfl
 | cons p kv Qj=>
  intro h;have ih:=Qj fun q hq=>h q (by simp [hq]);have hp:=h p (by simp);show cG _ ((((ca p.1:Nat):Int),p.2)::kt kv)=cG k ((p.1,p.2)::kv);rw [aY,aY,ih];by_cases e:k=p.1
  ·subst e;simp
  ·have e2:((ca k:Nat):Int)≠((ca p.1:Nat):Int):=fun q=>e (xr hk hp (by exact_mod_cast q));have q1:(((ca k:Nat):Int)==((ca p.1:Nat):Int))=false:=by simpa using e2
   have q2:(k==p.1)=false:=by simpa using e
   rw [q1,q2]
theorem FM:∀ {L:Nat} {k:List Nat} {v:Int} (hk:Lt L k),∀ {kv:KV},KL L kv->put ((ca k:Nat):Int) v (kt kv)=kt (q8 k v kv):=by iterate 4
 intro kv;induction kv with
 | nil=>intro _;exact rfl
 | cons p kv Qj=>
  intro h;have ih:=Qj fun q hq=>h q (by simp [hq]);have hp:=h p (by simp);show put _ v ((((ca p.1:Nat):Int),p.2)::kt kv)=kt (if p.1=k then (k,v)::kv else p::q8 k v kv);dsimp only [put];by_cases e:p.1=k
  ·subst e;simp [kt]
  ·have e2:((ca p.1:Nat):Int)≠((ca k:Nat):Int):=fun q=>e (xr hp hk (by exact_mod_cast q));rw [if_neg e2,if_neg e,ih];rfl
theorem KL.put:∀ {L:Nat} {k:List Nat} {v:Int} (hk:Lt L k),∀ {kv:KV},KL L kv->KL L (q8 k v kv):=by iterate 4
 intro kv;induction kv with
 | nil=>intro _ p hp;dsimp only [q8] at hp;simp at hp;subst hp;exact hk
 | cons q kv Qj=>
  intro h p hp;dsimp only [q8] at hp;split at hp
  ·rcases aq.mp hp with rfl | hp
   ·exact hk
   ·exact h p (by simp [hp])
  ·rcases aq.mp hp with rfl | hp
   ·exact h p (by simp)
   ·exact Qj (fun q hq=>h q (by simp [hq])) p hp
theorem vP:∀ {L:Nat},∀ {ws:List (Int×List Nat)} {kv:KV},(∀ w∈ws,Lt L w.2)->KL L kv->AF (ws.map rE) (kt kv)=kt (rJ ws kv)/\KL L (rJ ws kv):=by iterate 1 intro ws;induction ws with | nil=>intro kv _ h;exact ⟨rfl,h⟩ | cons w ws Qj=>intro kv hw h;have hk:=hw w (by simp);have:=Qj (kv:=q8 w.2 ((kv.lookup w.2).getD 0+w.1) kv) (fun x hx=>hw x (by simp [hx])) (KL.put hk h);refine ⟨?_,this.2⟩;show AF (ws.map rE) (put (rE w).2 (((kt kv).lookup (rE w).2).getD 0+w.1) (kt kv))=kt (rJ ws (q8 w.2 ((kv.lookup w.2).getD 0+w.1) kv));rw [<-this.1,<-FM hk h,<-pt hk h];rfl
theorem DX:∀ {k:List Nat} {v:Int},∀ {kv:KV},(kv.map (·.1)).Nodup->((q8 k v kv).map (·.1)).Nodup/\∀ x,x∈(q8 k v kv).map (·.1)->x=k\/x∈kv.map (·.1):=by iterate 2
 intro kv;induction kv with
 | nil=>intro _;exact ⟨by (dsimp only [q8];simp),fun x hx=>by (dsimp only [q8] at hx;simp at hx);exact .inl hx⟩
 | cons p kv Qj=>
  intro h;simp only [aB,cB] at h;obtain ⟨i1,i2⟩:=Qj h.2;dsimp only [q8];split
  ·rename_i e;refine ⟨?_,fun x hx=>?_⟩
   ·rw [aB,cB];exact ⟨e▸h.1,h.2⟩
   ·simp only [aB,aq] at hx ⊢;rcases hx with hx | hx
    ·exact .inl hx
    ·exact .inr (.inr hx)
  ·rename_i e;refine ⟨?_,fun x hx=>?_⟩
   ·rw [aB,cB];refine ⟨fun hm=>?_,i1⟩;rcases i2 _ hm with q | q
    ·exact e q
    ·exact h.1 q
   ·simp only [aB,aq] at hx ⊢;rcases hx with hx | hx
    ·exact .inr (.inl hx)
    ·rcases i2 x hx with q | q
     ·exact .inl q
     ·exact .inr (.inr q)
theorem xt:∀ {ws:List (Int×List Nat)} {kv:KV},(kv.map (·.1)).Nodup->((rJ ws kv).map (·.1)).Nodup:=by iterate 0 intro ws;induction ws with | nil=>intro _ h;exact h | cons w ws Qj=>intro kv h;exact Qj (DX h).1
theorem rP:∀ {kv:KV},(kv.map (·.1)).Nodup->∀ {p:List Nat×Int},p∈kv->kv.lookup p.1=some p.2:=by iterate 1
 induction kv with
 | nil=>intro _ p h;cases h
 | cons q kv ih=>
  intro h p hp;simp only [aB,cB] at h;rw [show q::kv=(q.1,q.2)::kv from rfl,aY];rcases aq.mp hp with rfl | hp
  ·simp
  ·have:(p.1==q.1)=false:=by
    simp only [beq_eq_false_iff_ne];intro e;exact h.1 (e▸cM hp)
   rw [this];exact ih h.2 hp
theorem Hj:∀ {a:Nat} {r:List Nat} (hb:∀ x∈r,x<64),ca (a::r) / 64 ^ r.length=a:=by iterate 3 show pq 64 (0 * 64+a) r / _=_;rw [qQ,fP,dM,bE,ia (dk (by decide)),eY (CG r hb),ib]
theorem Lt.WB:∀ {L:Nat} {r:List Nat} (h:Lt L r) (hL:L<=4),ca r<2 ^ 30:=by iterate 4
 have h1:=rY h.lt;rw [h.1] at h1;have h2:(64:Nat) ^ L<=64 ^ 4:=a8 (by decide) hL;have h3:(64:Nat) ^ 4<2 ^ 30:=by decide
 omega
theorem Hh:∀ {m L a:Nat} {r:List Nat} {g:G} (h:Lt (L+1) (a::r)) (hL:L<=3),∃ q,ceCall P1 (m+130) "int_divmod" [.int (ca (a::r):Nat),.int ((64:Int) ^ L)] g=some (.tup [.int a,.int q],g):=by iterate 7
 have h2:(64:Nat) ^ L<=64 ^ 3:=a8 (by decide) hL;have h3:(64:Nat) ^ 3<2 ^ 30:=by decide
 have:=zN (m:=m+20) (a:=ca (a::r)) (b:=64 ^ L) (g:=g) (h.WB (by omega)) (by omega) (dk (by decide));have e:ca (a::r) / 64 ^ L=a:=by have:=Hj (a:=a) (r:=r) fun x hx=>h.lt x (by simp [hx]);have hl:=h.1;simp at hl;rw [hl] at this;exact this
 rw [e] at this;rw [eD] at this;exact ⟨_,this⟩
theorem Me:o8 P1 "_law_led" =some ⟨["sums","codes","letter"],fsc P1 "_law_led",fb P1 "_law_led"⟩:=by iterate 0 rfl'
noncomputable def N0:Expr:=D4 (at_ (fb P1 "_law_led") 1)
noncomputable def MK:List Stmt:=pW (at_ (fb P1 "_law_led") 1)
noncomputable def sh (kv:KV) (x:Nat):List (Int×List Nat):=kv.flatMap fun p=>if p.1.head? =some x then (yw p.1).map fun w=>(w.1 * p.2,w.2) else []
noncomputable def wD (w:Int×List Nat):D:=re (rE w)
theorem GG:∀ (l:List (Int×List Nat)),(l.map rE).map re=l.map wD:=by iterate 1 simp [wD]
theorem BO:∀ {xs ys:List D} (h:(xs++ys).length<=lim),ownMeth "extend" xs [.lst ys]=some (xs++ys):=by iterate 3
 have:ownMeth "extend" xs [.lst ys]=if (xs++ys).length<=lim then some (xs++ys) else none:=by rfl'
 rw [this,if_pos h]
theorem rQ:∀ {Qx:List (Int×Int)} {k v:Int} (h:Qx.lookup k=some v),subD P1 (.QC Qx) (.int k)=some (.int v):=by iterate 4 show ((oH (D.int k)).bind fun k=>(Qx.lookup k).bind fun v=>some (D.int v))=_;exact f8 (a:=k) rfl (f8 (a:=v) h rfl)
theorem Ji:∀ {a:Int} (h: -1000<=a/\a<=1000),lw a=true:=by iterate 2 exact (wY h.1 h.2)
theorem Fe:∀ {m L:Nat} {g:G} {kv:KV} {cs:List Nat} {x:Nat} {T:Qm} {acc:List D} {p:List Nat×Int} (hL:L=2\/L=3) (hk:KL (L+1) kv) (hn:(kv.map (·.1)).Nodup) (hc:cs.length=L+1) (hp:p∈kv) (hv: -1000<=p.2/\p.2<=1000) (h1:T.At "sums" (.QC (kt kv))) (h2:T.At "codes" (pk cs)) (h3:T.At "letter" (.int x)) (h4:T.lookup ("led" :Str)=none) (Uc:acc.length<=1000) (Te:(yw p.1).length<=1000),turnF P1 (m+150) (fsc P1 "_law_led") N0 MK (.int (ca p.1:Nat)) ⟨T,[],some ("led",.lst acc)⟩ g=some (⟨("number",.int (ca p.1:Nat))::T,[],some ("led",.lst (acc++(if p.1.head? =some x then (yw p.1).map fun w=>(w.1 * p.2,w.2) else []).map wD))⟩,g,none):=by iterate 21
 have hr:=hk p hp;obtain ⟨a,r,e⟩:∃ a r,p.1=a::r:=by cases h:p.1 with | nil=>have:=hr.1;rw [h] at this;simp at this | cons a r=>exact ⟨a,r,rfl⟩
 rw [e] at hr;obtain ⟨q,hq⟩:=Hh (m:=m+15) (g:=g) hr (by omega);have TA:(kt kv).lookup ((ca p.1:Nat):Int)=some p.2:=by rw [pt (e▸hr) hk];exact rP hn hp
 rw [e] at TA ⊢;rw [e] at Te;rw [mF];have VO:binop .Pow (.int 64) (.int (((cs.map fun x:Nat=>D.int x).length:Int)-1))=some (.int ((64:Int) ^ L)):=by rw [show ((cs.map fun x:Nat=>D.int x).length:Int)-1=(L:Int) from by simp [hc]];have:=zD (b:=64) (k:=(L:Int)) rfl (by omega) (by omega);rwa [aP] at this
 by_cases hx:a=x
 ·subst hx;have c1:(((a:Nat):Int)==((a:Nat):Int))=true:=by simp
  have hf:=Nf (m:=m+83) (row:=a::r) (g:=g) (by rcases hL with rfl | rfl<;>simp at hr hc ⊢ <;>have:=hr.1<;>simp at this<;>omega) hr.2;rw [GG] at hf;simp only [aK,aM] at hf;rw [if_pos rfl,b7];symm
  ·refine qz (emb:=wD) (F:=fun w=>wD (w.1 * p.2,w.2)) fun w hw QP=>?_;symm
   ·exact rQ TA
   ·exact xu (by rw [Ji hv];rfl)
   symm
  ·simp at Te ⊢;unfold lim;omega
  symm
  ·exact BO (by simp at Te ⊢;unfold lim;omega)
  symm
 ·have c1:(((a:Nat):Int)==((x:Nat):Int))=false:=by simp;omega
  rw [if_neg (by simpa using hx),iU,aS];symm
theorem Gi:∀ {m L:Nat} {g:G} {kv:KV} {cs:List Nat} {x:Nat} (hL:L=2\/L=3) (hk:KL (L+1) kv) (hn:(kv.map (·.1)).Nodup) (hc:cs.length=L+1) (hv:∀ p∈kv, -1000<=p.2/\p.2<=1000) (Te:∀ p∈kv,(yw p.1).length<=8),∀ (rest:KV) (T:Qm) (acc:List D),
  (∀ p∈rest,p∈kv)->T.At "sums" (.QC (kt kv))->T.At "codes" (pk cs)->T.At "letter" (.int x)->T.lookup ("led" :Str)=none->acc.length+8 * rest.length<=1000->
  ∃ T',iterLoop (turnF P1 (m+150) (fsc P1 "_law_led") N0 MK) (rest.map fun p=>D.int (ca p.1:Nat)) ⟨T,[],some ("led",.lst acc)⟩ g=some (⟨T',[],some ("led",.lst (acc++(sh rest x).map wD))⟩,g,none)/\
   T'.At "sums" (.QC (kt kv))/\T'.At "codes" (pk cs)/\T'.At "letter" (.int x)/\T'.lookup ("led" :Str)=none:=by iterate 12
 intro rest;induction rest with
 | nil=>intro T acc _ h1 h2 h3 h4 _;exact ⟨T,by first | rfl | (rw [aS];rfl) | (show some _=some _;simp;done) | (show some _=some _;simp [sh]),h1,h2,h3,h4⟩
 | cons p rest Qj=>
  intro T acc hs h1 h2 h3 h4 hl;have hp:=hs p (by simp);have hf:=Te p hp;have ht:=Fe (m:=m) (g:=g) (T:=T) (acc:=acc) (x:=x) hL hk hn hc hp (hv p hp) h1 h2 h3 h4 (by simp at hl;omega) (by omega);have hlen:(if p.1.head? =some x then (yw p.1).map fun w=>(w.1 * p.2,w.2) else []).length<=8:=by
   split
   ·simpa using hf
   ·simp
  obtain ⟨T',e1,e2⟩:=Qj (("number",.int (ca p.1:Nat))::T) (acc++(if p.1.head? =some x then (yw p.1).map fun w=>(w.1 * p.2,w.2) else []).map wD) (fun q hq=>hs q (by simp [hq])) (by symm) (by symm) (by symm) (by symm) (by simp only [aw,aG,aI] at hl ⊢;omega);refine ⟨T',?_,e2⟩;rw [aB,ol ht];rw [e1];simp [sh,iO]
noncomputable def tu (cs:List Nat) (x:Nat):Int:=((cs.filter fun y=>y==x).length:Nat)
theorem Fw:∀ {cs:List Nat} {x:Nat} {g:G},methD "count" (pk cs) [.int x] g=some (.int (tu cs x),g):=by iterate 3
 have:methD "count" (pk cs) [.int x] g=(sQ (cs.map fun x:Nat=>D.int x)).map fun l=>(.int ((l.filter (· ==(x:Int))).length:Nat),g):=by rfl'
 rw [this,<-vt,uF,cY];have:((cs.map fun x:Nat=>(x:Int)).filter (· ==(x:Int))).length=(cs.filter fun y=>y==x).length:=by rw [mH,aG];congr 2;funext y;show ((y:Int)==(x:Int))=_;rw [c8];simp;omega
 rw [this];rfl
noncomputable def pH (kv:KV) (x:Nat):KV:=rJ (sh kv x) []
noncomputable def Et (o:Int) (p:List Nat×Int):Option Int:=if p.2=0 then none else some (o * p.2)
noncomputable def MA (p:List Nat×Int):Option Int:=if p.2=0 then none else some p.2
noncomputable def EY (kv:KV) (o:Int):KV:=kv.filterMap fun p=>(Et o p).map fun v=>(p.1,v)
noncomputable def MC (kv:KV):KV:=kv.filterMap fun p=>(MA p).map fun v=>(p.1,v)
noncomputable def yA (a b:KV):Bool:=a.length==b.length&&a.all fun p=>b.lookup p.1==some p.2
noncomputable def xm (kv:KV) (cs:List Nat) (x:Nat):Bool:=yA (MC (pH kv x)) (EY kv (tu cs x))&&kv.all fun p=>aL (((pH kv x).lookup p.1).getD 0) (tu cs x)==p.2&&aQ (((pH kv x).lookup p.1).getD 0) (tu cs x)==0
theorem Jq:∀ {P:Nat->Prop},∀ (r:List Nat) (ws:List (Int×List Nat)) (n:Nat),(∀ w∈ws,w.2.length=n/\∀ y∈w.2,P y)->(∀ y∈r,P y)->∀ w∈w0 ws r,w.2.length=n+r.length/\∀ y∈w.2,P y:=by iterate 1
 intro r;induction r with
 | nil=>intro ws n h _ w hw;exact h w hw
 | cons y r Qj=>
  intro ws n h hr w hw;have:=Qj _ (n+1) (fun w hw=>?_) (fun z hz=>hr z (by simp [hz])) w hw
  ·refine ⟨?_,this.2⟩;rw [this.1,aI];omega
  ·rcases bF.mp hw with q | q<;>obtain ⟨v,hv,rfl⟩:=aH.mp q
   ·obtain ⟨h1,h2⟩:=h v hv;refine ⟨by simp [h1],fun z hz=>?_⟩;rcases bF.mp hz with z1 | z1
    ·exact h2 z z1
    ·simp at z1;subst z1;exact hr _ (by simp)
   ·obtain ⟨h1,h2⟩:=h v hv;refine ⟨by simp [h1],fun z hz=>?_⟩;rcases aq.mp hz with rfl | z1
    ·exact hr _ (by simp)
    ·exact h2 z z1
theorem Ls:∀ {L:Nat} {r:List Nat} (h:Lt L r),∀ w∈yw r,Lt L w.2:=by iterate 3 cases r with | nil=>intro w hw;simp [yw] at hw | cons x r=>intro w hw;have:=Jq (P:=fun y=>0<y/\y<64) r [(1,[x])] 1 (fun w hw=>by simp at hw;subst hw;exact ⟨rfl,fun y hy=>by simp at hy;subst hy;exact h.2 _ (by simp)⟩) (fun y hy=>h.2 y (by simp [hy])) w hw;exact ⟨by rw [this.1,<-h.1,aI];omega,this.2⟩
theorem Dp:∀ {L:Nat} {kv:KV} {x:Nat} (h:KL L kv),∀ w∈sh kv x,Lt L w.2:=by iterate 4
 exact (fun w hw=>by
 obtain ⟨p,hp,hw⟩:=iZ.mp hw;split at hw
 ·obtain ⟨v,hv,rfl⟩:=aH.mp hw;exact Ls (h p hp) v hv
 ·simp at hw)
theorem Bc:∀ {x:Nat},∀ {kv:KV},(∀ p∈kv,(yw p.1).length<=8)->(sh kv x).length<=8 * kv.length:=by iterate 1
 intro kv;induction kv with
 | nil=>intro _;simp [sh]
 | cons p kv Qj=>
  intro h;have ih:=Qj fun q hq=>h q (by simp [hq]);have:=h p (by simp);have e:sh (p::kv) x=(if p.1.head? =some x then (yw p.1).map fun w=>(w.1 * p.2,w.2) else [])++sh kv x:=by simp [sh]
  have hlen:(if p.1.head? =some x then (yw p.1).map fun w=>(w.1 * p.2,w.2) else []).length<=8:=by
   split
   ·simpa using this
   ·simp
  rw [e,aw,aI];omega
theorem Hc:∀ (k:List Nat) (v:Int),∀ kv:KV,(q8 k v kv).length<=kv.length+1:=by iterate 2
 intro kv;induction kv with
 | nil=>(dsimp only [q8];simp)
 | cons p r Qj=>
  dsimp only [q8];split
  ·simp
  ·have:=Qj;simp;omega
theorem wn:∀ (ws:List (Int×List Nat)) (kv:KV),(rJ ws kv).length<=kv.length+ws.length:=by iterate 0 intro ws;induction ws with | nil=>intro kv;simp [rJ] | cons w ws Qj=>intro kv;have h1:=Qj (q8 w.2 ((kv.lookup w.2).getD 0+w.1) kv);have h2:=Hc w.2 ((kv.lookup w.2).getD 0+w.1) kv;have e:rJ (w::ws) kv=rJ ws (q8 w.2 ((kv.lookup w.2).getD 0+w.1) kv):=rfl;rw [e,aI];omega
theorem IU:∀ {k v:Int},∀ {acc:List (Int×Int)},(∀ q∈acc,q.1≠k)->put k v acc=acc++[(k,v)]:=by iterate 2 intro acc;induction acc with | nil=>intro _;exact rfl | cons q acc Qj=>intro h;dsimp only [put];rw [if_neg (h q (by simp)),Qj fun z hz=>h z (by simp [hz])];rfl
theorem xd:∀ {L:Nat} {g:G} {step:D->List (Int×Int)->G->Option (List (Int×Int)×G×Option D)} (f:List Nat×Int->Option Int),∀ (rest VE:KV),KL L (VE++rest)->((VE++rest).map (·.1)).Nodup->
  (∀ p∈rest,∀ acc,step (.int (ca p.1:Nat)) acc g=some ((match f p with | some v=>put (ca p.1:Nat) v acc | none=>acc),g,none))->
  iterLoop step (rest.map fun p=>D.int (ca p.1:Nat)) (kt (VE.filterMap fun p=>(f p).map fun v=>(p.1,v))) g=some (kt ((VE++rest).filterMap fun p=>(f p).map fun v=>(p.1,v)),g,none):=by iterate 4
 intro rest;induction rest with
 | nil=>intro VE _ _ _;first | rfl | (rw [aS];rfl) | (show some _=some _;simp;done) | (show some _=some _;simp [sh])
 | cons p rest Qj=>
  intro VE hk hn h;rw [aB,ol (h p (by simp) _)];have ih:=Qj (VE++[p]) (by simpa using hk) (by simpa using hn) fun q hq=>h q (by simp [hq]);have e:(match f p with | some v=>put (ca p.1:Nat) v (kt (VE.filterMap fun p=>(f p).map fun v=>(p.1,v))) | none=>kt (VE.filterMap fun p=>(f p).map fun v=>(p.1,v)))=kt ((VE++[p]).filterMap fun p=>(f p).map fun v=>(p.1,v)):=by
   cases hf:f p with
   | none=>simp [hf]
   | some v=>
    dsimp only;rw [IU]
    ·simp [hf,kt]
    ·intro q hq;obtain ⟨z,hz,rfl⟩:=aH.mp hq;obtain ⟨y,hy,hy2⟩:=ey.mp hz;obtain ⟨v',_,rfl⟩:=ba.mp hy2;intro e;have h1:=hk y (by simp [hy]);have h2:=hk p (by simp);have e:((ca y.1:Nat):Int)=((ca p.1:Nat):Int):=e;have h3:=xr h1 h2 (by exact_mod_cast e);simp only [dG,aB] at hn;have:=gn.mp hn;exact this.2.2 y.1 (cM hy) p.1 (by simp) h3
  rw [e,ih];simp
theorem A6:∀ {L:Nat} {a b:KV} (ha:KL L a) (hb:KL L b),t5 (kt a) (kt b)=yA a b:=by iterate 5
 unfold t5 yA;have e1:(kt a).length=a.length:=by simp [kt]
 have e2:(kt b).length=b.length:=by simp [kt]
 rw [e1,e2];congr 1;show (a.map _).all _=_;rw [iV];apply c8.mpr;simp only [ak,Function.comp_apply];constructor<;>intro h p hp<;>have:=h p hp<;>rw [pt (ha p hp) hb] at * <;>exact this
theorem KL.fm:∀ {L:Nat} {kv:KV} {f:List Nat×Int->Option Int} (h:KL L kv),KL L (kv.filterMap fun p=>(f p).map fun v=>(p.1,v)):=by iterate 4
 exact (fun q hq=>by
 obtain ⟨y,hy,hy2⟩:=ey.mp hq;obtain ⟨v',_,rfl⟩:=ba.mp hy2;exact h y hy)
theorem HT:∀ {m L:Nat} {g:G} {kv:KV} {cs:List Nat} {x:Nat} (hL:L=2\/L=3) (hk:KL (L+1) kv) (hn:(kv.map (·.1)).Nodup) (hc:cs.length=L+1) (hv:∀ p∈kv, -1000<=p.2/\p.2<=1000) (Te:∀ p∈kv,(yw p.1).length<=8) (hkl:kv.length<=8) (hx:x∈cs) (S0:xm kv cs x=true),ceCall P1 (m+160) "_law_led" [.QC (kt kv),pk cs,.int x] g=some (.bool true,g):=by iterate 15
 obtain ⟨T',e1,f1,f2,f3,f4⟩:=Gi (m:=m+5) (g:=g) (x:=x) hL hk hn hc hv Te kv [("sums",.QC (kt kv)),("codes",pk cs),("letter",.int x)] [] (fun p hp=>hp) (by rfl') (by rfl') (by rfl') (by rfl') (by simp;omega);have ei:(kv.map fun p=>D.int (ca p.1:Nat))=(kt kv).map fun p=>D.int p.1:=by simp [kt]
 rw [ei,a9] at e1;apply im (by rfl') Me (by rfl');have aey:ceCall P1 (m+154) "_law_sums" [.lst ((sh kv x).map wD)] g=some (.QC (kt (pH kv x)),g):=by have h1:=wT (m:=m+104) (g:=g) (ws:=(sh kv x).map rE) (by have:=Bc (x:=x) Te;rw [aG];omega);have h2:=(vP (L:=L+1) (ws:=sh kv x) (kv:=[]) (Dp hk) (fun p hp=>by cases hp)).1;rw [GG] at h1;rw [show (kt []:List (Int×Int))=[] from rfl] at h2;rw [h2] at h1;simp only [aK,aM] at h1;exact h1
 have ae5:methD "count" (.lst (cs.map fun x:Nat=>D.int x)) [.int x] g=some (.int (tu cs x),g):=Fw;have TA:∀ p∈kv,(kt kv).lookup ((ca p.1:Nat):Int)=some p.2:=fun p hp=>by rw [pt (hk p hp) hk];exact rP hn hp
 have ZD:tu cs x=((cs.filter fun y=>y==x).length:Nat):=rfl;have ho1:0<(cs.filter fun y=>y==x).length:=List.length_pos_iff_exists_mem.mpr ⟨x,List.mem_filter.mpr ⟨hx,by simp⟩⟩;have ho2:(cs.filter fun y=>y==x).length<=4:=bw (dH _ _) (by omega);have hos:lw (tu cs x)=true:=wY (by rw [ZD];omega) (by rw [ZD];omega);symm
 ·rw [<-ei];refine xd (Et (tu cs x)) kv [] (by simpa using hk) (by simpa using hn) fun p hp acc=>?_;have hl:=TA p hp;by_cases hz:p.2=0
  ·have c1:(!(p.2==(0:Int)))=false:=by rw [hz];rfl
   simp only [Et,hz,if_true];symm
   ·exact rQ hl
   rfl
  ·have c1:(!(p.2==(0:Int)))=true:=by simp [hz]
   simp only [Et,hz,if_false];symm
   ·exact rQ hl
   ·rfl
   ·exact rQ hl
   exact xu (by rw [hos,fM])
 ·have h1:(kv.filterMap fun p=>(Et (tu cs x) p).map fun v=>(p.1,v)).length<=kv.length:=j9 _ _;simp only [a9,kt,aG];unfold lim;omega
 have VL:KL (L+1) (pH kv x):=(vP (L:=L+1) (ws:=sh kv x) (kv:=[]) (Dp hk) (fun p hp=>by cases hp)).2;have htn:((pH kv x).map (·.1)).Nodup:=xt (ws:=sh kv x) (kv:=[]) (by simp);have et:((pH kv x).map fun p=>D.int (ca p.1:Nat))=(kt (pH kv x)).map fun p=>D.int p.1:=by simp [kt]
 have WK:∀ p∈pH kv x,(kt (pH kv x)).lookup ((ca p.1:Nat):Int)=some p.2:=fun p hp=>by rw [pt (VL p hp) VL];exact rP htn hp
 unfold xm at S0;rw [ai] at S0;have acG:(!t5 (kt (MC (pH kv x))) (kt (EY kv (tu cs x))))=false:=by rw [A6 (a:=MC (pH kv x)) (b:=EY kv (tu cs x)) (L:=L+1) (KL.fm VL) (KL.fm hk),S0.1];rfl
 symm
 ·rw [<-et];refine xd MA (pH kv x) [] (by simpa using VL) (by simpa using htn) fun p hp acc=>?_;have hl:=WK p hp;by_cases hz:p.2=0
  ·have c1:(!((p.2==(0:Int))==true))=false:=by rw [hz];rfl
   simp only [MA,hz,if_true];symm
   ·exact rQ hl
   run_tac Wk.ce [``zw]
   rfl
  ·have c1:(!((p.2==(0:Int))==true))=true:=by simp [hz]
   simp only [MA,hz,if_false];symm
   ·exact rQ hl
   run_tac Wk.ce [``zw]
   ·rfl
   exact rQ hl
 ·have h1:((pH kv x).filterMap fun p=>(MA p).map fun v=>(p.1,v)).length<=(pH kv x).length:=j9 _ _;have h2:=wn (sh kv x) [];have h3:=Bc (x:=x) Te;simp only [a9,kt,aG];simp only [hG,dM] at h2;unfold lim;unfold pH at h1 ⊢;omega
 symm
 ·refine DA fun d hd=>?_;obtain ⟨p,hp,rfl⟩:=aH.mp (ei▸hd);have hl:=TA p hp;have hq:=ak.mp S0.2 p hp;simp only [ai,beq_iff_eq] at hq;have hg:((kt (pH kv x)).lookup ((ca p.1:Nat):Int)).getD 0=((pH kv x).lookup p.1).getD 0:=by rw [pt (hk p hp) VL]
  have hdm:ceCall P1 (m+146) "int_divmod" [.int (((kt (pH kv x)).lookup ((ca p.1:Nat):Int)).getD 0),.int (tu cs x)] g=some (.tup [.int p.2,.int 0],g):=by
   rw [hg];have e:=Int.mul_fdiv_add_fmod (((pH kv x).lookup p.1).getD 0) (tu cs x);rw [hq.1,hq.2] at e;have hv':=hv p hp;have hb1: -4000<=tu cs x * p.2/\tu cs x * p.2<=4000:=by
    rw [ZD];constructor
    ·calc (-4000:Int)<=4 * (-1000):=by decide
      _<=((cs.filter fun y=>y==x).length:Int) * p.2:=by
       have h5:((cs.filter fun y=>y==x).length:Int)<=4:=by omega
       rcases oC 0 p.2 with z | z
       ·have:=ir (show (0:Int)<=((cs.filter fun y=>y==x).length:Nat) from az _) z;omega
       ·have:=Int.mul_le_mul_of_nonpos_right h5 z;omega
    ·rcases oC 0 p.2 with z | z
     ·have h5:((cs.filter fun y=>y==x).length:Int)<=4:=by omega
      have:=Int.mul_le_mul_of_nonneg_right h5 z;omega
     ·have:=Int.mul_nonpos_of_nonneg_of_nonpos (show (0:Int)<=((cs.filter fun y=>y==x).length:Nat) from az _) z;omega
   have:=BF (m:=m+16) (a:=((pH kv x).lookup p.1).getD 0) (b:=(cs.filter fun y=>y==x).length) (g:=g) (by omega) (by omega) (by omega) ho1;rw [<-ZD,hq.1,hq.2] at this;exact this
  have ae6:cmp P1 .NotEq (.tup [.int p.2,.int 0]) (.tup [.int p.2,.int 0])=some false:=by
   have:cmp P1 .NotEq (.tup [.int p.2,.int 0]) (.tup [.int p.2,.int 0])=some (!((p.2==p.2)&&(((0:Int)==0)&&true))):=by rfl'
   rw [this];simp
  symm
  ·exact rQ hl
  symm
 symm
theorem Aq:∀ {g:G} {a b c:MO},(g++[a,b]).set g.length c=g++[c,b]:=by iterate 4 rw [g0 _ _ (bN _),iW];rfl
theorem AZ:∀ {g:G} {a b c:MO},(g++[a,b]).set (g.length+1) c=g++[a,c]:=by iterate 4 rw [g0 _ _ (d9 _ 1),eC];rfl
theorem Ap:∀ {g:G} {a b:MO},(g++[a,b])[g.length]? =some a:=by iterate 3 simp
theorem Ah:∀ {g:G} {a b:MO},(g++[a,b])[g.length+1]? =some b:=by iterate 3 rw [aT (d9 _ 1),eC];rfl
noncomputable def lx (pb:List Nat):MO:= .lex 1 none (pb.map fun x:Nat=>D.int x)
theorem Cn:∀ {g:G} {j:Nat} {ln:Int} {src:Option Nat} {pb:List D} {d:D} (h:g[j]? =some (.lex ln src pb)) (hl:pb.length<lim),methD "push_token" (.loc j) [d] g=some (.none,g.set j (.lex ln src (pb++[d]))):=by iterate 8
 have:methD "push_token" (.loc j) [d] g=Ky d g j:=by rfl'
 rw [this];exact f8 h (f8 rfl (if_pos hl))
theorem Hl:∀ {g:G} {j:Nat} {ln:Int} {src:Option Nat} {pb:List D} {d:D} (h:g[j]? =some (.lex ln src (d::pb))),methD "get_token" (.loc j) [] g=some (d,g.set j (.lex ln src pb)):=by iterate 7
 have:methD "get_token" (.loc j) [] g=wU g j:=by rfl'
 rw [this];exact f8 h (f8 rfl rfl)
theorem uq:∀ {g:G} {d:D},(qe g d==qe g d)=true:=by iterate 2 simp
theorem Jj:o8 P1 "_law_laid" =some ⟨["front","rear","sums"],fsc P1 "_law_laid",fb P1 "_law_laid"⟩:=by iterate 0 rfl'
noncomputable def J3:Expr:=D4 (at_ (fb P1 "_law_laid") 1)
noncomputable def GP:List Stmt:=pW (at_ (fb P1 "_law_laid") 1)
noncomputable def wE:Stmt:=at_ GP 1
theorem Nu:∀ {m:Nat} {b:MO} {g:G},∀ (ls:List Nat) (T:Qm) (pb:List Nat),T.At "one" (.loc g.length)->pb.length+ls.length<=100->
  ∃ T',iterLoop (turnF P1 (m+50) (fsc P1 "_law_laid") (D4 (at_ (pW wE) 1)) (pW (at_ (pW wE) 1))) (ls.map fun x:Nat=>D.int x) ⟨T,[],none⟩ (g++[lx pb,b])=some (⟨T',[],none⟩,g++[lx (pb++ls),b],none)/\∀ y:Str,y≠"letter" ->T'.lookup y=T.lookup y:=by iterate 3
 intro ls;induction ls with
 | nil=>intro T pb _ _;exact ⟨T,by first | rfl | (rw [aS];rfl),fun _ _=>rfl⟩
 | cons x ls Qj=>
  intro T pb h1 hl;have hm:methD "push_token" (.loc g.length) [.int x] (g++[lx pb,b])=some (.none,g++[lx (pb++[x]),b]):=by have:=Cn (g:=g++[lx pb,b]) (j:=g.length) (ln:=1) (src:=none) (pb:=pb.map fun x:Nat=>D.int x) (d:= .int x) Ap (by simp at hl;simp [lim];omega);rw [this,Aq];simp [lx]
  have hk:=uq (g:=g++[lx pb,b]) (d:= .loc g.length);have hs:turnF P1 (m+50) (fsc P1 "_law_laid") (D4 (at_ (pW wE) 1)) (pW (at_ (pW wE) 1)) (.int x) ⟨T,[],none⟩ (g++[lx pb,b])=some (⟨("letter",.int x)::T,[],none⟩,g++[lx (pb++[x]),b],none):=by symm
  obtain ⟨T',e1,e2⟩:=Qj (("letter",.int x)::T) (pb++[x]) (by symm) (by simp at hl ⊢;omega);refine ⟨T',?_,fun y hy=>?_⟩
  ·rw [aB,ol hs];rw [e1];simp
  ·rw [e2 y hy];have:(y==("letter" :Str))=false:=by simpa using hy
   rw [aY,this]
theorem N8:∀ {m:Nat} {b:MO} {g:G},∀ (ls:List Nat) (T:Qm) (pb:List Nat),T.At "two" (.loc (g.length+1))->pb.length+ls.length<=100->
  ∃ T',iterLoop (turnF P1 (m+50) (fsc P1 "_law_laid") (D4 (at_ (pW wE) 2)) (pW (at_ (pW wE) 2))) (ls.map fun x:Nat=>D.int x) ⟨T,[],none⟩ (g++[b,lx pb])=some (⟨T',[],none⟩,g++[b,lx (pb++ls)],none)/\∀ y:Str,y≠"letter" ->T'.lookup y=T.lookup y:=by iterate 3
 intro ls;induction ls with
 | nil=>intro T pb _ _;exact ⟨T,by first | rfl | (rw [aS];rfl),fun _ _=>rfl⟩
 | cons x ls Qj=>
  intro T pb h1 hl;have hm:methD "push_token" (.loc (g.length+1)) [.int x] (g++[b,lx pb])=some (.none,g++[b,lx (pb++[x])]):=by have:=Cn (g:=g++[b,lx pb]) (j:=g.length+1) (ln:=1) (src:=none) (pb:=pb.map fun x:Nat=>D.int x) (d:= .int x) Ah (by simp at hl;simp [lim];omega);rw [this,AZ];simp [lx]
  have hk:=uq (g:=g++[b,lx pb]) (d:= .loc (g.length+1));have hs:turnF P1 (m+50) (fsc P1 "_law_laid") (D4 (at_ (pW wE) 2)) (pW (at_ (pW wE) 2)) (.int x) ⟨T,[],none⟩ (g++[b,lx pb])=some (⟨("letter",.int x)::T,[],none⟩,g++[b,lx (pb++[x])],none):=by symm
  obtain ⟨T',e1,e2⟩:=Qj (("letter",.int x)::T) (pb++[x]) (by symm) (by simp at hl ⊢;omega);refine ⟨T',?_,fun y hy=>?_⟩
  ·rw [aB,ol hs];rw [e1];simp
  ·rw [e2 y hy];have:(y==("letter" :Str))=false:=by simpa using hy
   rw [aY,this]
noncomputable def pw:List Bool->List Nat->List Nat->List Nat
| [],_,_=>[]
| b::t,f,r=>bif b then (match f with
  | []=>[]
  | a::f=>a::pw t f r) else (match r with
  | []=>[]
  | a::r=>a::pw t f r)
noncomputable def bD (b:Bool):D:= .int (if b then 1 else 0)
noncomputable def vR (t:List Bool):Nat:=(t.filter id).length
theorem sq:∀ {b:Bool} {ts:List Bool},vR (b::ts)=(if b then 1 else 0)+vR ts:=by iterate 2 cases b<;>simp [vR];omega
theorem Hw:∀ {step:D->List D->G->Option (List D×G×Option D)} {g:G} (hT:∀ (a:Nat) (f r:List Nat) (acc:List D),step (bD true) acc (g++[lx (a::f),lx r])=some (acc++[.int a],g++[lx f,lx r],none)) (hF:∀ (a:Nat) (f r:List Nat) (acc:List D),step (bD false) acc (g++[lx f,lx (a::r)])=some (acc++[.int a],g++[lx f,lx r],none)),∀ (ts:List Bool) (f r:List Nat) (acc:List D),vR ts=f.length->ts.length=f.length+r.length->iterLoop step (ts.map bD) acc (g++[lx f,lx r])=some (acc++(pw ts f r).map fun x:Nat=>D.int x,g++[lx [],lx []],none):=by iterate 4
 intro ts;induction ts with
 | nil=>intro f r acc h1 h2;obtain rfl:f=[]:=gB.mp (by simp at h2;omega);obtain rfl:r=[]:=gB.mp (by simp at h2;omega);show some (acc,g++[lx [],lx []],none)=some (acc++[],g++[lx [],lx []],none);rw [aS]
 | cons Rv ts Qj=>
  cases Rv with
  | true=>intro f r acc h1 h2;rw [sq] at h1;cases f with | nil=>simp at h1 | cons a f=>rw [aB,ol (hT _ _ _ _)];rw [Qj f r _ (by simp at h1;omega) (by simp at h2;omega),bK];rfl
  | false=>intro f r acc h1 h2;rw [sq] at h1;have hc:vR ts<=ts.length:=dH _ _;cases r with | nil=>simp at h1 h2;omega | cons a r=>rw [aB,ol (hF _ _ _ _)];rw [Qj f r _ (by simp at h1;omega) (by simp at h2;omega),bK];rfl
theorem Dv:∀ (ts:List Bool) (f r:List Nat),vR ts=f.length->ts.length=f.length+r.length->(pw ts f r).length=ts.length/\∀ x∈pw ts f r,x∈f\/x∈r:=by iterate 0
 intro ts;induction ts with
 | nil=>intro f r _ _;(dsimp only [pw];simp)
 | cons Rv ts Qj=>
  cases Rv with
  | true=>
   intro f r h1 h2;rw [sq] at h1;cases f with
   | nil=>simp at h1
   | cons a f=>
    obtain ⟨e1,e2⟩:=Qj f r (by simp at h1;omega) (by simp at h2;omega);refine ⟨by (dsimp only [pw];simp [e1]),fun x hx=>?_⟩;(dsimp only [pw] at hx ⊢;simp only [cond_true,cond_false,aq] at hx ⊢);rcases hx with rfl | hx
    ·exact .inl (.inl rfl)
    ·exact (e2 x hx).imp .inr id
  | false=>
   intro f r h1 h2;rw [sq] at h1;have hc:vR ts<=ts.length:=dH _ _;cases r with
   | nil=>simp at h1 h2;omega
   | cons a r=>
    obtain ⟨e1,e2⟩:=Qj f r (by simp at h1;omega) (by simp at h2;omega);refine ⟨by (dsimp only [pw];simp [e1]),fun x hx=>?_⟩;(dsimp only [pw] at hx ⊢;simp only [cond_true,cond_false,aq] at hx ⊢);rcases hx with rfl | hx
    ·exact .inr (.inl rfl)
    ·exact (e2 x hx).imp id .inr
noncomputable def qa (c n:Nat):List Bool:=(aN n).map fun k=>c / 2 ^ k % 2==1
theorem Fb:∀ {c k:Nat},binop .RShift (.int c) (.int k)=some (.int (c / 2 ^ k:Nat)):=by iterate 2
 have h:binop .RShift (.int c) (.int k)=some (.int (aL c (2 ^ (k:Int).toNat))):=by show (if (0:Int)<=(k:Int) then some (D.int (aL (c:Int) (2 ^ (k:Int).toNat))) else none)=_;exact if_pos (az k)
 rw [h,aP,aV _ (jc (lO (by decide)))];rfl
theorem Dr:∀ {c:Nat},binop .BitAnd (.int c) (.int 1)=some (bD (c % 2==1)):=by iterate 1
 have h:binop .BitAnd (.int c) (.int 1)=some (.int (aQ c 2)):=by show (if (0:Int)<=(c:Int)/\(1:Int)=1 then some (D.int (aQ (c:Int) 2)) else none)=_;exact if_pos ⟨az c,rfl⟩
 rw [h,aU _ (by decide)];rcases dU c with h | h
 ·have:(c:Int) % 2=0:=by omega
  rw [this,h];rfl
 ·have:(c:Int) % 2=1:=by omega
  rw [this,h];rfl
theorem GS:∀ ts:List Bool,(ts.map fun b=>if b then (1:Int) else 0).sum=vR ts:=by iterate 0 intro ts;induction ts with | nil=>exact rfl | cons b ts Qj=>rw [aB,kj,Qj,sq];cases b<;>simp
noncomputable def vD (kv:KV) (front rear:List Nat) (c:Nat):Int:=if vR (qa c (front.length+rear.length))=front.length then (kv.lookup (pw (qa c (front.length+rear.length)) front rear)).getD 0 else 0
theorem AI:∀ {k:Nat} {g:G},ceCall P1 (k+31) "_netrclex" [.none] g=some (.loc g.length,g++[lx []]):=by iterate 2 exact (qH (h:=sa) (by rfl') (by omega) (by rfl))
theorem Ee:∀ {k:Nat} {g:G},ceCall P1 (k+31) "_netrclex" [.none] (g++[lx []])=some (.loc (g.length+1),g++[lx [],lx []]):=by iterate 2 rw [AI];simp
theorem JV:∀ {g:G} {a:Nat} {f r:List Nat},methD "get_token" (.loc g.length) [] (g++[lx (a::f),lx r])=some (.int a,g++[lx f,lx r]):=by iterate 4 have:=Hl (g:=g++[lx (a::f),lx r]) (j:=g.length) (ln:=1) (src:=none) (pb:=f.map fun x:Nat=>D.int x) (d:= .int a) Ap;rw [this,Aq];rfl
theorem I8:∀ {g:G} {a:Nat} {f r:List Nat},methD "get_token" (.loc (g.length+1)) [] (g++[lx f,lx (a::r)])=some (.int a,g++[lx f,lx r]):=by iterate 4 have:=Hl (g:=g++[lx f,lx (a::r)]) (j:=g.length+1) (ln:=1) (src:=none) (pb:=r.map fun x:Nat=>D.int x) (d:= .int a) Ah;rw [this,AZ];rfl
noncomputable def tY (c n:Nat):List D:=(aN n).map fun k=>bD (c / 2 ^ k % 2==1)
theorem yY:∀ (c n:Nat),tY c n=(qa c n).map bD:=by iterate 2 simp [tY,qa]
theorem yN:∀ {c n:Nat} {g:G},tC [.lst (tY c n)] g=some (.int (vR (qa c n):Nat),g):=by iterate 3
 have e:tY c n=((qa c n).map fun b=>if b then (1:Int) else 0).map D.int:=by rw [yY];simp [bD]
 rw [e,Bn,GS];intro x hx;obtain ⟨b,_,rfl⟩:=aH.mp hx;cases b<;>decide
theorem Ev:∀ {m L c:Nat} {g:G} {T:Qm} {front rear:List Nat} {kv:KV} {VG:Int} (hk:KL L kv) (hl:front.length+rear.length=L) (hL:L<=4) (hf:∀ x∈front,0<x/\x<64) (hr:∀ x∈rear,0<x/\x<64) (h1:T.At "front" (pk front)) (h2:T.At "rear" (pk rear)) (h3:T.At "sums" (.QC (kt kv))) (h4:T.At "total" (.int VG)),∃ T' g',turnF P1 (m+100) (fsc P1 "_law_laid") J3 GP (.int c) ⟨T,[],none⟩ g=some (⟨T',[],none⟩,g++g',none)/\T'.At "front" (pk front)/\T'.At "rear" (pk rear)/\T'.At "sums" (.QC (kt kv))/\T'.At "total" (.int (VG+vD kv front rear c)):=by iterate 18
 have hlen:((front.map fun x:Nat=>D.int x)++(rear.map fun x:Nat=>D.int x)).length=L:=by simp [hl]
 have YQ:binop .Add (.lst (front.map fun x:Nat=>D.int x)) (.lst (rear.map fun x:Nat=>D.int x))=some (.lst ((front.map fun x:Nat=>D.int x)++(rear.map fun x:Nat=>D.int x))):=by show Ei (_++_)=_;exact if_pos (by rw [hlen];unfold lim;omega)
 have aaQ:itemsOf (.rng 0 (((front.map fun x:Nat=>D.int x)++(rear.map fun x:Nat=>D.int x)).length:Int))=some ((aN L).map fun i:Nat=>D.int i):=by rw [hlen];exact p9 (by unfold lim;omega)
 by_cases hc:vR (qa c L)=front.length
 ·have Pr:(((vR (qa c L):Nat):Int)==((front.map fun x:Nat=>D.int x).length:Int))=true:=by simp [hc]
  have hv:vD kv front rear c=(kv.lookup (pw (qa c L) front rear)).getD 0:=by unfold vD;rw [hl,if_pos hc]
  obtain ⟨T1,e1,f1⟩:=Nu (m:=m+43) (b:=lx []) (g:=g) front (("two",.loc (g.length+1))::("one",.loc g.length)::("turns",.lst (tY c L))::("choice",.int c)::T) [] (by rfl') (by simp;omega);obtain ⟨T2,e2,f2⟩:=N8 (m:=m+42) (b:=lx front) (g:=g) rear T1 [] (by rw [Qm.At,f1 _ (by decide)];rfl') (by simp;omega);have q1:T1.At "rear" (pk rear):=by rw [Qm.At,f1 _ (by decide)];symm
  have key:∀ y:Str,y≠"letter" ->T2.lookup y=cG y (("two",.loc (g.length+1))::("one",.loc g.length)::("turns",.lst (tY c L))::("choice",.int c)::T):=fun y hy=>by rw [f2 y hy,f1 y hy]
  have k1:T2.At "one" (.loc g.length):=by rw [Qm.At,key _ (by decide)];symm
  have k2:T2.At "two" (.loc (g.length+1)):=by rw [Qm.At,key _ (by decide)];symm
  have k3:T2.At "turns" (.lst (tY c L)):=by rw [Qm.At,key _ (by decide)];symm
  have k4:T2.At "sums" (.QC (kt kv)):=by rw [Qm.At,key _ (by decide)];symm
  have k5:T2.At "total" (.int VG):=by rw [Qm.At,key _ (by decide)];symm
  have k6:T2.At "front" (pk front):=by rw [Qm.At,key _ (by decide)];symm
  have k7:T2.At "rear" (pk rear):=by rw [Qm.At,key _ (by decide)];symm
  have hml:=Dv (qa c L) front rear hc (by simp [qa,hl]);have ZE:Lt L (pw (qa c L) front rear):=⟨by rw [hml.1];simp [qa],fun x hx=>(hml.2 x hx).elim (hf x) (hr x)⟩
  have hlk:(kt kv).lookup ((ca (pw (qa c L) front rear):Nat):Int)=kv.lookup (pw (qa c L) front rear):=pt ZE hk;rw [hv,<-hlk];refine ⟨("total",.int (VG+((kt kv).lookup ((ca (pw (qa c L) front rear):Nat):Int)).getD 0))::T2,[lx [],lx []],?_,?_,?_,?_,?_⟩
  ·symm
   ·refine qz (F:=fun k=>bD (c / 2 ^ k % 2==1)) fun k hk acc=>?_;symm
    ·exact Fb
    exact Dr
   ·simp;unfold lim;omega
   symm
   ·exact qH (h:=tC) (by rfl') (by omega) yN
   run_tac Wk.ce [``Ee,``AI]
   ·rw [yY];refine Hw (g:=g) (fun a f r acc=>?_) (fun a f r acc=>?_) (qa c L) front rear [] hc (by simp [qa,hl])
    ·have hg:=JV (g:=g) (a:=a) (f:=f) (r:=r);have hkk:=uq (g:=g++[lx (a::f),lx r]) (d:= .loc g.length);symm
    ·have hg:=I8 (g:=g) (a:=a) (f:=f) (r:=r);have hkk:=uq (g:=g++[lx f,lx (a::r)]) (d:= .loc (g.length+1));symm
   ·simp only [a9,aG,ZE.1];unfold lim;omega
   symm
   ·rw [a9];exact rX (m:=m+44) (row:=pw (qa c L) front rear) (by rw [ZE.1];exact hL) ZE.lt
   symm
  all_goals symm
 ·have Rl:(((vR (qa c L):Nat):Int)==((front.map fun x:Nat=>D.int x).length:Int))=false:=by
   simp;omega
  have hv:vD kv front rear c=0:=by unfold vD;rw [hl,if_neg hc]
  rw [hv,lb];refine ⟨("turns",.lst (tY c L))::("choice",.int c)::T,[],?_,?_,?_,?_,?_⟩
  ·rw [aS];symm
   ·refine qz (F:=fun k=>bD (c / 2 ^ k % 2==1)) fun k hk acc=>?_;symm
    ·exact Fb
    exact Dr
   ·simp;unfold lim;omega
   symm
   ·exact qH (h:=tC) (by rfl') (by omega) yN
   symm
  all_goals symm
theorem DV:∀ {m L:Nat} {front rear:List Nat} {kv:KV} (hk:KL L kv) (hl:front.length+rear.length=L) (hL:L<=4) (hf:∀ x∈front,0<x/\x<64) (hr:∀ x∈rear,0<x/\x<64),∀ (cs:List Nat) (T:Qm) (g:G) (VG:Int),
  T.At "front" (pk front)->T.At "rear" (pk rear)->T.At "sums" (.QC (kt kv))->T.At "total" (.int VG)->
  ∃ T' g',iterLoop (turnF P1 (m+100) (fsc P1 "_law_laid") J3 GP) (cs.map fun x:Nat=>D.int x) ⟨T,[],none⟩ g=some (⟨T',[],none⟩,g++g',none)/\T'.At "total" (.int (VG+(cs.map (vD kv front rear)).sum)):=by iterate 10
 intro cs;induction cs with
 | nil=>intro T g VG _ _ _ h4;exact ⟨T,[],by first | rfl | (rw [aS];rfl),by simpa using h4⟩
 | cons c cs Qj=>
  intro T g VG h1 h2 h3 h4;obtain ⟨T1,g1,e1,q1,q2,q3,q4⟩:=Ev (m:=m) (c:=c) (g:=g) hk hl hL hf hr h1 h2 h3 h4;obtain ⟨T2,g2,e2,q5⟩:=Qj T1 (g++g1) _ q1 q2 q3 q4;refine ⟨T2,g1++g2,?_,?_⟩
  ·rw [aB,ol e1];rw [e2,bK]
  ·rw [aB,kj,<-kG];exact q5
noncomputable def tX (kv:KV) (front rear:List Nat):Int:=((aN (2 ^ (front.length+rear.length))).map (vD kv front rear)).sum
theorem Dl:∀ {m L:Nat} {g:G} {front rear:List Nat} {kv:KV} (hk:KL L kv) (hl:front.length+rear.length=L) (hL:L<=4) (hf:∀ x∈front,0<x/\x<64) (hr:∀ x∈rear,0<x/\x<64),∃ g',ceCall P1 (m+110) "_law_laid" [pk front,pk rear,.QC (kt kv)] g=some (.int (tX kv front rear),g++g'):=by iterate 11
 obtain ⟨T',g',e1,q1⟩:=DV (m:=m+5) hk hl hL hf hr (aN (2 ^ L)) [("total",.int 0),("front",pk front),("rear",pk rear),("sums",.QC (kt kv))] g 0 (by rfl') (by rfl') (by rfl') (by rfl');rw [oz] at q1;have hlen:((front.map fun x:Nat=>D.int x)++(rear.map fun x:Nat=>D.int x)).length=L:=by simp [hl]
 have YQ:binop .Add (.lst (front.map fun x:Nat=>D.int x)) (.lst (rear.map fun x:Nat=>D.int x))=some (.lst ((front.map fun x:Nat=>D.int x)++(rear.map fun x:Nat=>D.int x))):=by show Ei (_++_)=_;exact if_pos (by rw [hlen];unfold lim;omega)
 have VO:binop .Pow (.int 2) (.int (((front.map fun x:Nat=>D.int x)++(rear.map fun x:Nat=>D.int x)).length:Int))=some (.int ((2 ^ L:Nat):Int)):=by rw [hlen];have:=zD (b:=2) (k:=(L:Int)) rfl (by omega) (by omega);rw [aP] at this;rw [eD];exact this
 have hp:2 ^ L<=16:=a8 (by decide) hL;have aaQ:itemsOf (.rng 0 ((2 ^ L:Nat):Int))=some ((aN (2 ^ L)).map fun i:Nat=>D.int i):=p9 (by unfold lim;omega);refine ⟨g',?_⟩;have hS:tX kv front rear=((aN (2 ^ L)).map (vD kv front rear)).sum:=by unfold tX;rw [hl]
 rw [hS];apply im (by rfl') Jj (by rfl');symm
theorem CU:o8 P1 "_law_parted" =some ⟨["sign","row","cut","sums"],fsc P1 "_law_parted",fb P1 "_law_parted"⟩:=by iterate 0 rfl'
theorem CR:∀ {F R:List Nat},ca (F++R)=ca F * 64 ^ R.length+ca R:=by iterate 2 unfold ca pq;rw [iN];exact qQ R _
theorem JD:∀ {a:Nat} {r:List Nat} (h:0<a),0<ca (a::r):=by iterate 3 show 0<pq 64 (0 * 64+a) r;rw [qQ,fP,dM];exact dB (Nat.mul_pos h (dk (by decide))) (d9 _ _)
theorem wA:∀ {F R:List Nat},slice ((F++R).map fun x:Nat=>D.int x) none (some (F.length:Int))=F.map fun x:Nat=>D.int x:=by iterate 2
 have h:¬ ((F.length:Int)<0):=by omega
 simp [slice,oW,oP,pI,h]
theorem xa:∀ {F R:List Nat},slice ((F++R).map fun x:Nat=>D.int x) (some (F.length:Int)) none=R.map fun x:Nat=>D.int x:=by iterate 2
 have h:¬ ((F.length:Int)<0):=by omega
 have e:(F.length+R.length)=((F++R).map fun x:Nat=>D.int x).length:=by simp
 simp only [slice,oW,oP,pI,h,if_false];rw [iY,aP,dN (by simp),dG];have:(F.map fun x:Nat=>D.int x).length=F.length:=by simp
 rw [<-this,mX]
theorem Bj:∀ {F R:List Nat} (h:R.length<=4),binop .Pow (.int 64) (.int ((((F++R).map fun x:Nat=>D.int x).length:Int)-(F.length:Int)))=some (.int ((64 ^ R.length:Nat):Int)):=by iterate 3
 have e:(((F++R).map fun x:Nat=>D.int x).length:Int)-(F.length:Int)=(R.length:Int):=by simp;omega
 rw [e];have:=zD (b:=64) (k:=(R.length:Int)) rfl (by omega) (by omega);rw [aP] at this;rw [eD];exact this
theorem vw:∀ {k:Nat} {F:List Nat} {g:G} (hk:30<=k) (h0:F≠[]) (hl:F.length<=4) (hb:∀ x∈F,0<x/\x<64),ceCall P1 (k+1) "_int2digits" [.int (ca F:Nat),.int 6] g=some (.lst (F.reverse.map fun x:Nat=>D.int x),g):=by iterate 7 match F,h0,hl,hb with | a::r,_,hl,hb=>exact zH hk (hb a (by simp)).1 (fun x hx=>(hb x hx).2) (by simp at hl;omega)
theorem mul_one:∀ {n:Nat},binop .Mult (.int 1) (.int (n:Int))=some (.int n):=by iterate 1 rw [xu (by rw [show lw (1:Int)=true from rfl,fM]),Int.one_mul]
theorem zm:∀ {a b:Int},cmp P1 .NotEq (.tup [.int a,.int b]) (.tup [.int a,.int b])=some false:=by iterate 2
 have:cmp P1 .NotEq (.tup [.int a,.int b]) (.tup [.int a,.int b])=some (!((a==a)&&((b==b)&&true))):=by rfl'
 rw [this];simp
theorem uj:∀ {F R:List Nat} (hr:∀ x∈R,x<64),ca (F++R) / 64 ^ R.length=ca F/\ca (F++R) % 64 ^ R.length=ca R:=by iterate 3 have h:=rY hr;rw [CR,bE];exact ⟨by rw [ia (dk (by decide)),eY h,ib],by rw [jO,gM h]⟩
theorem DK:∀ {m:Nat} {F R:List Nat} {g:G} (hl:F.length+R.length<=4) (hF:∀ x∈F,x<64) (hr:∀ x∈R,x<64),ceCall P1 (m+130) "int_divmod" [.int (ca (F++R):Nat),.int ((64 ^ R.length:Nat):Int)] g=some (.tup [.int (ca F:Nat),.int (ca R:Nat)],g):=by iterate 7
 have h1:ca (F++R)<2 ^ 30:=by
  have h2:=rY (row:=F++R) fun x hx=>(bF.mp hx).elim (hF x) (hr x);have h3:(64:Nat) ^ (F++R).length<=64 ^ 4:=a8 (by decide) (by simpa using hl);have h4:(64:Nat) ^ 4<2 ^ 30:=by decide
  omega
 have h5:(64:Nat) ^ R.length<2 ^ 30:=by
  have h3:(64:Nat) ^ R.length<=64 ^ 4:=a8 (by decide) (by omega);have h4:(64:Nat) ^ 4<2 ^ 30:=by decide
  omega
 have:=zN (m:=m+20) (a:=ca (F++R)) (b:=64 ^ R.length) (g:=g) h1 h5 (dk (by decide));rw [(uj hr).1,(uj hr).2] at this;exact this
theorem D3:∀ {m:Nat} {F R:List Nat} {g:G} (hl:F.length+R.length<=4) (hF:∀ x∈F,x<64) (hr:∀ x∈R,x<64),ceCall P1 (m+150) "int_divmod" [.int (-((ca (F++R):Nat):Int)),.int (-((64 ^ R.length:Nat):Int))] g=some (.tup [.int (ca F:Nat),.int (-((ca R:Nat):Int))],g):=by iterate 7
 have h1:ca (F++R)<2 ^ 30:=by
  have h2:=rY (row:=F++R) fun x hx=>(bF.mp hx).elim (hF x) (hr x);have h3:(64:Nat) ^ (F++R).length<=64 ^ 4:=a8 (by decide) (by simpa using hl);have h4:(64:Nat) ^ 4<2 ^ 30:=by decide
  omega
 have h5:(64:Nat) ^ R.length<2 ^ 30:=by
  have h3:(64:Nat) ^ R.length<=64 ^ 4:=a8 (by decide) (by omega);have h4:(64:Nat) ^ 4<2 ^ 30:=by decide
  omega
 have:=CW (m:=m) (a:= -((ca (F++R):Nat):Int)) (b:=64 ^ R.length) (g:=g) (by omega) (by omega) h5 (dk (by decide));rw [Int.neg_neg,aV _ (az _),aU _ (az _),<-Int.natCast_ediv,<-Int.natCast_emod,(uj hr).1,(uj hr).2] at this;exact this
theorem FA:∀ {R:List Nat} (h:R≠[]) (hr:∀ x∈R,0<x/\x<64),0<ca R:=by iterate 3 match R,h,hr with | b::r,_,hr=>exact JD (hr b (by simp)).1
theorem GX:∀ {n:Nat},binop .Mult (.int (-1)) (.int (n:Int))=some (.int (-(n:Int))):=by iterate 1 rw [xu (by rw [show lw (-1:Int)=true from rfl,fM]),Int.neg_mul,Int.one_mul]
theorem ue:∀ {F R:List Nat} (hr:∀ x∈R,x<64) (hp:0<ca R),aL (-((ca (F++R):Nat):Int)) ((64 ^ R.length:Nat):Int)= -((ca F:Nat):Int)-1/\aQ (-((ca (F++R):Nat):Int)) ((64 ^ R.length:Nat):Int)=((64 ^ R.length:Nat):Int)-(ca R:Nat):=by iterate 4
 have h1:=rY hr;have h2:((ca (F++R):Nat):Int)=((64 ^ R.length:Nat):Int) * (ca F:Nat)+(ca R:Nat):=by rw [CR,fy,da,eQ]
 generalize 64 ^ R.length=b at *;generalize ca F=f at *;generalize ca R=r at *;generalize ca (F++R)=n at *;rw [aV _ (az _),aU _ (az _)];have:=lD (a:= -(n:Int)) (b:=b) (r:=(b:Int)-r) (q:= -(f:Int)-1) (by omega);have h4:(b:Int) * (-(f:Int)-1)= -((b:Int) * f)-b:=by rw [Int.mul_sub,Int.mul_neg,Int.mul_one]
 exact this.mpr ⟨by rw [h4];omega,by omega,by omega⟩
theorem wx:∀ {F R:List Nat} (hl:F.length+R.length<=4) (hF:∀ x∈F,x<64) (hr:∀ x∈R,x<64),ca (F++R)<2 ^ 30/\64 ^ R.length<2 ^ 30:=by iterate 5
 have h2:=rY (row:=F++R) fun x hx=>(bF.mp hx).elim (hF x) (hr x);have h3:(64:Nat) ^ (F++R).length<=64 ^ 4:=a8 (by decide) (by simpa using hl);have h5:(64:Nat) ^ R.length<=64 ^ 4:=a8 (by decide) (by omega);have h4:(64:Nat) ^ 4<2 ^ 30:=by decide
 omega
theorem Ep:∀ {m:Nat} {F R:List Nat} {g:G} (hl:F.length+R.length<=4) (hF:∀ x∈F,x<64) (hr:∀ x∈R,x<64) (hp:0<ca R),ceCall P1 (m+130) "int_divmod" [.int (-((ca (F++R):Nat):Int)),.int ((64 ^ R.length:Nat):Int)] g=some (.tup [.int (-((ca F:Nat):Int)-1),.int (((64 ^ R.length:Nat):Int)-(ca R:Nat))],g):=by iterate 8 obtain ⟨h1,h5⟩:=wx hl hF hr;have:=BF (m:=m) (a:= -((ca (F++R):Nat):Int)) (b:=64 ^ R.length) (g:=g) (by omega) (by omega) h5 (dk (by decide));rw [(ue hr hp).1,(ue hr hp).2] at this;exact this
theorem EN:∀ {m:Nat} {F R:List Nat} {g:G} (hl:F.length+R.length<=4) (hF:∀ x∈F,x<64) (hr:∀ x∈R,x<64) (hp:0<ca R),ceCall P1 (m+150) "int_divmod" [.int (-(-((ca (F++R):Nat):Int))),.int (-((64 ^ R.length:Nat):Int))] g=some (.tup [.int (-((ca F:Nat):Int)-1),.int (-(((64 ^ R.length:Nat):Int)-(ca R:Nat)))],g):=by iterate 8 obtain ⟨h1,h5⟩:=wx hl hF hr;have:=CW (m:=m) (a:= -(-((ca (F++R):Nat):Int))) (b:=64 ^ R.length) (g:=g) (by omega) (by omega) h5 (dk (by decide));rw [Int.neg_neg (-((ca (F++R):Nat):Int)),(ue hr hp).1,(ue hr hp).2] at this;exact this
theorem FN:∀ {m L:Nat} {g:G} {F R:List Nat} {kv:KV} (hk:KL L kv) (hl:F.length+R.length=L) (hL:L<=4) (hf:∀ x∈F,0<x/\x<64) (hr:∀ x∈R,0<x/\x<64) (V1:F≠[]) (Xp:R≠[]) (hz:tX kv F R=0),∃ QU g',ceSs P1 (m+169) (fsc P1 "_law_parted") ⟨([("sign",.int 1),("row",pk (F++R)),("cut",.int F.length),("sums",.QC (kt kv))]:Qm),[],none⟩ (fb P1 "_law_parted") g=some (.ret (.bool true),QU,g++g'):=by iterate 14
 obtain ⟨g',SI⟩:=Dl (m:=m+48) (g:=g) hk hl hL hf hr;rw [hz] at SI;simp only [aK,aM,pk] at SI;have hi1:=vw (k:=m+154) (F:=F) (g:=g) (by omega) V1 (by omega) hf;have YD:=vw (k:=m+153) (F:=R) (g:=g) (by omega) Xp (by omega) hr;simp only [aK,aM] at hi1 YD;apply eK;refine ⟨g',?_⟩;symm
 ·exact Bj (by omega)
 have Ys:=rX (m:=m+118) (row:=F) (g:=g) (by omega) fun x hx=>(hf x hx).2;have VP:=rX (m:=m+117) (row:=R) (g:=g) (by omega) fun x hx=>(hr x hx).2;simp only [aK,aM,pk] at Ys VP;have hn3:=rX (m:=m+117) (row:=F++R) (g:=g) (by simp;omega) fun x hx=>(bF.mp hx).elim (fun h=>(hf x h).2) (fun h=>(hr x h).2);simp only [aK,aM,pk] at hn3;have YL:=DK (m:=m+29) (g:=g) (F:=F) (R:=R) (by omega) (fun x hx=>(hf x hx).2) fun x hx=>(hr x hx).2;have hd2:=D3 (m:=m+8) (g:=g) (F:=F) (R:=R) (by omega) (fun x hx=>(hf x hx).2) fun x hx=>(hr x hx).2;have ZO:=zm (a:=(ca F:Nat)) (b:=(ca R:Nat));have VX:=zm (a:=(ca F:Nat)) (b:= -((ca R:Nat):Int));simp only [aK,aM] at YL hd2;symm
 ·rw [wA];with_reducible exact Ys
 symm
 ·rw [xa];with_reducible exact VP
 symm
 ·with_reducible exact mul_one
 symm
 ·rw [<-dq,cu,<-dq,cu];with_reducible exact SI
 run_tac Wk.ce [``zw]
theorem EA:∀ {m L:Nat} {g:G} {F R:List Nat} {kv:KV} (hk:KL L kv) (hl:F.length+R.length=L) (hL:L<=4) (hf:∀ x∈F,0<x/\x<64) (hr:∀ x∈R,0<x/\x<64) (V1:F≠[]) (Xp:R≠[]) (hz:tX kv F R=0),∃ QU g',ceSs P1 (m+169) (fsc P1 "_law_parted") ⟨([("sign",.int (-1)),("row",pk (F++R)),("cut",.int F.length),("sums",.QC (kt kv))]:Qm),[],none⟩ (fb P1 "_law_parted") g=some (.ret (.bool true),QU,g++g'):=by iterate 14
 obtain ⟨g',SI⟩:=Dl (m:=m+48) (g:=g) hk hl hL hf hr;rw [hz] at SI;simp only [aK,aM,pk] at SI;have hi1:=vw (k:=m+154) (F:=F) (g:=g) (by omega) V1 (by omega) hf;have YD:=vw (k:=m+153) (F:=R) (g:=g) (by omega) Xp (by omega) hr;simp only [aK,aM] at hi1 YD;apply eK;refine ⟨g',?_⟩;symm
 ·exact Bj (by omega)
 have Ys:=rX (m:=m+118) (row:=F) (g:=g) (by omega) fun x hx=>(hf x hx).2;have VP:=rX (m:=m+117) (row:=R) (g:=g) (by omega) fun x hx=>(hr x hx).2;simp only [aK,aM,pk] at Ys VP;have hn3:=rX (m:=m+117) (row:=F++R) (g:=g) (by simp;omega) fun x hx=>(bF.mp hx).elim (fun h=>(hf x h).2) (fun h=>(hr x h).2);simp only [aK,aM,pk] at hn3;have hRp:0<ca R:=FA Xp hr;have YL:=Ep (m:=m+29) (g:=g) (F:=F) (R:=R) (by omega) (fun x hx=>(hf x hx).2) (fun x hx=>(hr x hx).2) hRp;have hd2:=EN (m:=m+8) (g:=g) (F:=F) (R:=R) (by omega) (fun x hx=>(hf x hx).2) (fun x hx=>(hr x hx).2) hRp;have ZO:=zm (a:= -((ca F:Nat):Int)-1) (b:=((64 ^ R.length:Nat):Int)-(ca R:Nat));have VX:=zm (a:= -((ca F:Nat):Int)-1) (b:= -(((64 ^ R.length:Nat):Int)-(ca R:Nat)));simp only [aK,aM] at YL hd2;symm
 ·rw [wA];with_reducible exact Ys
 symm
 ·rw [xa];with_reducible exact VP
 symm
 ·with_reducible exact GX
 symm
 ·rw [<-dq,cu,<-dq,cu];with_reducible exact SI
 run_tac Wk.ce [``zw]
theorem C4:∀ {m L:Nat} {g:G} {F R:List Nat} {kv:KV} {sg:Int} (hs:sg=1\/sg= -1) (hk:KL L kv) (hl:F.length+R.length=L) (hL:L<=4) (hf:∀ x∈F,0<x/\x<64) (hr:∀ x∈R,0<x/\x<64) (V1:F≠[]) (Xp:R≠[]) (hz:tX kv F R=0),∃ g',ceCall P1 (m+170) "_law_parted" [.int sg,pk (F++R),.int F.length,.QC (kt kv)] g=some (.bool true,g++g'):=by iterate 16
 rcases hs with rfl | rfl
 ·obtain ⟨QU,g',h⟩:=FN (m:=m) (g:=g) hk hl hL hf hr V1 Xp hz;exact ⟨g',im (by rfl') CU (by rfl') h⟩
 ·obtain ⟨QU,g',h⟩:=EA (m:=m) (g:=g) hk hl hL hf hr V1 Xp hz;exact ⟨g',im (by rfl') CU (by rfl') h⟩
noncomputable def rn (f:Nat->Nat) (kv:KV):KV:=kv.map fun p=>(p.1.map f,p.2)
noncomputable def DR (f:Nat->Nat) (ws:List (Int×List Nat)):List (Int×List Nat):=ws.map fun w=>(w.1,w.2.map f)
section
variable {f:Nat->Nat} (hf:∀ i j,f i=f j->i=j)
include hf
theorem GV:∀ {r s:List Nat},r.map f=s.map f->r=s:=by iterate 0
 intro r;induction r with
 | nil=>intro s h;cases s with | nil=>rfl | cons _ _=>simp at h
 | cons a r Qj=>intro s h;cases s with | nil=>simp at h | cons b s=>simp only [aB,gy] at h;rw [hf _ _ h.1,Qj h.2]
theorem ut:∀ (k:List Nat),∀ kv:KV,(rn f kv).lookup (k.map f)=kv.lookup k:=by iterate 1
 intro kv;induction kv with
 | nil=>exact rfl
 | cons p kv Qj=>
  have ih:=Qj;show cG (k.map f) ((p.1.map f,p.2)::rn f kv)=cG k ((p.1,p.2)::kv);rw [aY,aY,ih];have:(k.map f==p.1.map f)=(k==p.1):=by rw [c8];simp only [beq_iff_eq];exact ⟨fun h=>GV hf h,fun h=>by rw [h]⟩
  rw [this]
theorem K6:∀ (k:List Nat) (v:Int),∀ kv:KV,q8 (k.map f) v (rn f kv)=rn f (q8 k v kv):=by iterate 2
 intro kv;induction kv with
 | nil=>exact rfl
 | cons p kv Qj=>
  have ih:=Qj;show (if p.1.map f=k.map f then (k.map f,v)::rn f kv else (p.1.map f,p.2)::q8 (k.map f) v (rn f kv))=rn f (if p.1=k then (k,v)::kv else p::q8 k v kv);by_cases h:p.1=k
  ·rw [if_pos h,if_pos (by rw [h])];rfl
  ·rw [if_neg h,if_neg (fun e=>h (GV hf e)),ih];rfl
theorem Cy:∀ (ws:List (Int×List Nat)) (kv:KV),rJ (DR f ws) (rn f kv)=rn f (rJ ws kv):=by iterate 0 intro ws;induction ws with | nil=>intro _;exact rfl | cons w ws Qj=>intro kv;show rJ (DR f ws) (q8 (w.2.map f) (((rn f kv).lookup (w.2.map f)).getD 0+w.1) (rn f kv))=rn f (rJ ws (q8 w.2 ((kv.lookup w.2).getD 0+w.1) kv));rw [ut hf,K6 hf,Qj]
omit hf in
theorem IV:∀ (r:List Nat) (ws:List (Int×List Nat)),w0 (DR f ws) (r.map f)=DR f (w0 ws r):=by iterate 0 intro r;induction r with | nil=>intro ws;exact rfl | cons y r Qj=>intro ws;rw [aB,Su.2.2.2.1,Su.2.2.2.1,<-Qj];congr 1;simp [DR,kQ]
omit hf in
theorem Oc:∀ r:List Nat,yw (r.map f)=DR f (yw r)
 | []=>rfl
 | x::r=>by show w0 [(1,[f x])] (r.map f)=DR f (w0 [(1,[x])] r);rw [<-IV];rfl
theorem Mh:∀ (x:Nat),∀ kv:KV,sh (rn f kv) (f x)=DR f (sh kv x):=by iterate 1
 intro kv;induction kv with
 | nil=>exact rfl
 | cons p kv Qj=>
  have ih:=Qj;show (if (p.1.map f).head? =some (f x) then (yw (p.1.map f)).map fun w=>(w.1 * p.2,w.2) else [])++sh (rn f kv) (f x)=DR f ((if p.1.head? =some x then (yw p.1).map fun w=>(w.1 * p.2,w.2) else [])++sh kv x);rw [ih];have e:(p.1.map f).head? =some (f x)↔p.1.head? =some x:=by cases p.1 with | nil=>simp | cons a r=>simp only [aB,mF,fi];exact ⟨fun h=>hf _ _ h,fun h=>by rw [h]⟩
  by_cases h:p.1.head? =some x
  ·rw [if_pos h,if_pos (e.mpr h),Oc];simp [DR]
  ·rw [if_neg h,if_neg (fun q=>h (e.mp q))];rfl
theorem Jr:∀ (kv:KV) (x:Nat),pH (rn f kv) (f x)=rn f (pH kv x):=by iterate 2 unfold pH;rw [Mh hf,show ([]:KV)=rn f [] from rfl,Cy hf];rfl
theorem KT:∀ (cs:List Nat) (x:Nat),tu (cs.map f) (f x)=tu cs x:=by iterate 2 unfold tu;rw [mH,aG];congr 3;funext y;show (f y==f x)=(y==x);rw [c8];simp only [beq_iff_eq];exact ⟨fun h=>hf _ _ h,fun h=>by rw [h]⟩
omit hf in
theorem Nd:∀ (kv:KV),MC (rn f kv)=rn f (MC kv):=by iterate 1 unfold MC rn;rw [dy,lM];congr 1;funext p;simp only [dC,MA];split<;>rfl
omit hf in
theorem LJ:∀ (kv:KV) (o:Int),EY (rn f kv) o=rn f (EY kv o):=by iterate 2 unfold EY rn;rw [dy,lM];congr 1;funext p;simp only [dC,Et];split<;>rfl
theorem Jz:∀ (a b:KV),yA (rn f a) (rn f b)=yA a b:=by iterate 2
 unfold yA;have h1:(rn f a).length=a.length:=by simp [rn]
 have h2:(rn f b).length=b.length:=by simp [rn]
 rw [h1,h2];congr 1;rw [show rn f a=a.map fun p=>(p.1.map f,p.2) from rfl,iV];congr 1;funext p;simp only [dC];rw [ut hf]
theorem HC:∀ (kv:KV) (cs:List Nat) (x:Nat),xm (rn f kv) (cs.map f) (f x)=xm kv cs x:=by iterate 3 unfold xm;rw [Jr hf,Nd,KT hf,LJ,Jz hf];congr 1;rw [show rn f kv=kv.map fun p=>(p.1.map f,p.2) from rfl,iV];congr 1;funext p;simp only [dC];rw [ut hf]
omit hf in
theorem HJ:∀ (bs:List Bool) (a b:List Nat),pw bs (a.map f) (b.map f)=(pw bs a b).map f:=by iterate 0
 intro bs;induction bs with
 | nil=>exact fun _ _=>rfl
 | cons b0 bs Qj=>
  intro a b;cases b0 with
  | true=>cases a with | nil=>rfl | cons x a=>exact congrArg (f x::·) (Qj a b)
  | false=>cases b with | nil=>rfl | cons x b=>exact congrArg (f x::·) (Qj a b)
theorem I5:∀ (kv:KV) (a b:List Nat),tX (rn f kv) (a.map f) (b.map f)=tX kv a b:=by iterate 3 unfold tX;rw [aG,aG];congr 2;funext c;unfold vD;rw [aG,aG,HJ,ut hf]
end
noncomputable def pO (cs:List Nat):List Nat:=cs.map fun x=>cs.idxOf x
noncomputable def Ef (cs:List Nat) (i:Nat):Nat:=match cs[i]? with
| some x=>if cs.idxOf x=i then x else i+1000
| none=>i+1000
theorem CJ:∀ {cs:List Nat} (h:∀ x∈cs,x<1000) (i j:Nat) (e:Ef cs i=Ef cs j),i=j:=by iterate 5
 unfold Ef at e;cases h1:cs[i]? with
 | none=>rw [h1] at e;cases h2:cs[j]? with | none=>rw [h2] at e;dsimp only at e;omega | some y=>rw [h2] at e;dsimp only at e;have:=h y (bL h2);split at e<;>omega
 | some x=>
  rw [h1] at e;have hx:=h x (bL h1);cases h2:cs[j]? with
  | none=>rw [h2] at e;dsimp only at e;split at e<;>omega
  | some y=>
   rw [h2] at e;have hy:=h y (bL h2);dsimp only at e;split at e<;>split at e
   ·rename_i q1 q2;rw [<-q1,<-q2,e]
   all_goals omega
theorem CA:∀ (cs:List Nat),(pO cs).map (Ef cs)=cs:=by iterate 1
 unfold pO;rw [b7];have:∀ x∈cs,(Ef cs ∘ fun x=>cs.idxOf x) x=x:=fun x hx=>by
  have h:=dJ hx;have h1:cs[cs.idxOf x]? =some x:=by rw [au h,lN]
  simp only [dC,Ef,h1,if_true]
 exact (cN this).trans (List.map_id _)
noncomputable def UU:List (List Nat):=[[0,0,0],[0,0,2],[0,1,0],[0,1,1],[0,1,2]]
noncomputable def UT:List (List Nat):=[[0,0,0,0],[0,0,0,3],[0,0,2,0],[0,0,2,2],[0,0,2,3],[0,1,0,0],[0,1,0,1],[0,1,0,3],[0,1,1,0],[0,1,1,1],[0,1,1,3],[0,1,2,0],[0,1,2,1],[0,1,2,2],[0,1,2,3]]
theorem Ij:∀ {f:Nat->Nat} (hf:∀ i j,f i=f j->i=j) (x:Nat),∀ l:List Nat,(l.map f).idxOf (f x)=l.idxOf x:=by iterate 3
 intro l;induction l with
 | nil=>exact rfl
 | cons y l Qj=>
  rw [aB,mE,mE,Qj];have:(f y==f x)=(y==x):=by rw [c8];simp only [beq_iff_eq];exact ⟨fun h=>hf _ _ h,fun h=>by rw [h]⟩
  rw [this]
theorem MV:∀ {cs:List Nat} {x:Nat} (hx:x∈cs),Ef cs (cs.idxOf x)=x:=by iterate 3
 have h1:cs[cs.idxOf x]? =some x:=by rw [au (dJ hx),lN]
 simp only [Ef,h1,if_true]
theorem AM:∀ {cs:List Nat} (h:∀ x∈cs,x<1000),pO (pO cs)=pO cs:=by iterate 2
 have key:∀ i∈pO cs,(pO cs).idxOf i=i:=fun i hi=>by obtain ⟨x,hx,rfl⟩:=aH.mp hi;have:=Ij (CJ h) (cs.idxOf x) (pO cs);rw [CA,MV hx] at this;exact this.symm
 exact (cN key).trans (List.map_id' _)
noncomputable def all3:List (List Nat):=(aN 3).flatMap fun a=>(aN 3).flatMap fun b=>(aN 3).map fun c=>[a,b,c]
noncomputable def all4:List (List Nat):=(aN 4).flatMap fun a=>(aN 4).flatMap fun b=>(aN 4).flatMap fun c=>(aN 4).map fun d=>[a,b,c,d]
theorem Ed:(all3.all fun l=>pO l !=l ||UU.contains l)=true:=by iterate 0 decide+kernel
theorem DD:(all4.all fun l=>pO l !=l ||UT.contains l)=true:=by iterate 0 decide+kernel
theorem OO:∀ {a b c:Nat} (h:∀ x∈[a,b,c],x<1000),pO [a,b,c]∈UU:=by iterate 4
 have hb:∀ x∈[a,b,c],([a,b,c]:List Nat).idxOf x<3:=fun x hx=>dJ hx;have hm:pO [a,b,c]∈all3:=by simp only [all3,iZ,aH,cz];exact ⟨_,hb a (by simp),_,hb b (by simp),_,hb c (by simp),rfl⟩
 have:=ak.mp Ed _ hm;rw [AM h] at this;simpa using this
theorem OP:∀ {a b c d:Nat} (h:∀ x∈[a,b,c,d],x<1000),pO [a,b,c,d]∈UT:=by iterate 5
 have hb:∀ x∈[a,b,c,d],([a,b,c,d]:List Nat).idxOf x<4:=fun x hx=>dJ hx;have hm:pO [a,b,c,d]∈all4:=by simp only [all4,iZ,aH,cz];exact ⟨_,hb a (by simp),_,hb b (by simp),_,hb c (by simp),_,hb d (by simp),rfl⟩
 have:=ak.mp DD _ hm;rw [AM h] at this;simpa using this
noncomputable def oL (t:BT) (cs:List Nat):List (Int×List Nat):=t.words.map fun w=>(w.1,w.2.map fun i=>cs.getD i 9)
noncomputable def qb (t:BT) (cs:List Nat):KV:=rJ (oL t cs) []
noncomputable def Ot (t:BT) (p:List Nat):Bool:=(p.all fun x=>xm (qb t p) p x)&&((qb t p).all fun q=>decide (-1000<=q.2/\q.2<=1000))&&(oL t p).all fun w=>(aN (p.length-1)).all fun j=>tX (qb t p) (w.2.take (j+1)) (w.2.drop (j+1))==0
theorem O2:∀ t∈SM,(UU.all fun p=>Ot t p)=true:=by iterate 0 exact (sJ ⟨by decide+kernel,by decide+kernel⟩)
theorem O4:∀ t∈SK,(UT.all fun p=>Ot t p)=true:=by iterate 0 exact (sN ⟨by decide+kernel,by decide+kernel,by decide+kernel,by decide+kernel,by decide+kernel⟩)
noncomputable abbrev Un:=Bool×Nat
noncomputable def q9:Un->List Nat
| (true,c)=>[92,c]
| (false,c)=>[c]
noncomputable def gl (U:List Un):List Nat:=U.flatMap q9
theorem oY:∀ (c:Nat),q9 (true,c)=[92,c]:=by iterate 1 exact (rfl)
theorem oZ:∀ (c:Nat),q9 (false,c)=[c]:=by iterate 1 exact (rfl)
noncomputable def zv (u:Un):Bool:=u.1 ||u.2 !=92
noncomputable def pg:Nat->List Un->List D
| _,[]=>[]
| p,(true,c)::U=> .tup [.int (p+1:Nat),.str [92,c]]::pg (p+2) U
| p,(false,c)::U=> .tup [.int p,.str [c]]::pg (p+1) U
theorem p0:∀ {u:Un} {U:List Un},gl (u::U)=q9 u++gl U:=by iterate 2 exact (rfl)
theorem qJ:∀ {U V:List Un},gl (U++V)=gl U++gl V:=by iterate 2 simp [gl]
theorem yQ:∀ (U:List Un) (p:Nat),U.all zv=true->pQ p (gl U)=pg p U/\pQ p (gl U++[92])=pg p U++[.tup [.int (p+(gl U).length:Nat),.str [92]]]:=by iterate 0
 intro U;induction U with
 | nil=>intro p _;exact ⟨rfl,rfl⟩
 | cons Rv U Qj=>
  obtain ⟨b0,c⟩:=Rv;cases b0 with
  | true=>
   intro p h;have ih:=Qj (p+2) (by simpa [zv] using h);have e:gl ((true,c)::U)=92::c::gl U:=rfl;rw [e];refine ⟨?_,?_⟩
   ·(dsimp only [pQ];rw [if_pos rfl,ih.1]);rfl
   ·(rw [bc,bc];dsimp only [pQ];rw [if_pos rfl,ih.2])
    (dsimp only [pg];simp);omega
  | false=>
   intro p h;have ih:=Qj (p+1) (by simp [zv] at h ⊢;exact h.2);have hc:c≠92:=by simp [zv] at h;exact h.1
   have e:gl ((false,c)::U)=c::gl U:=rfl;have key:∀ r:List Nat,pQ p (c::r)= .tup [.int p,.str [c]]::pQ (p+1) r:=fun r=>by cases r with | nil=>rfl | cons d r=>(dsimp only [pQ];rw [if_neg hc])
   rw [e];refine ⟨?_,?_⟩
   ·rw [key,ih.1];rfl
   ·rw [bc,key,ih.2];(dsimp only [pg];simp);omega
theorem yU:∀ {U:List Un} (h:U.all zv=true),units (gl U)=pg 0 U:=by iterate 2 exact ((yQ U 0 h).1)
theorem Bw:∀ {U:List Un} (h:U.all zv=true),units (gl U++[92])=pg 0 U++[.tup [.int ((gl U).length:Nat),.str [92]]]:=by iterate 2 have:=(yQ U 0 h).2;rw [dM] at this;exact this
noncomputable def qu (u:Un):Bool:=!u.1&&u.2==34
noncomputable def ga:Bool->List Un->List Un
| _,[]=>[]
| q,u::U=>bif qu u then ga (!q) U else bif q then ga true U else u::ga false U
noncomputable def qY:Bool->List Un->Bool
| q,[]=>!q
| q,u::U=>bif qu u then qY (!q) U else qY q U
theorem A5:∀ {u:Un} (h:qu u=true),u=(false,34):=by iterate 2 obtain ⟨a,b⟩:=u;simp [qu] at h;rw [h.1,h.2]
theorem qS:∀ {q:Bool} {U:List Un},ga q ((false,34)::U)=ga (!q) U:=by iterate 2 cases q<;>rfl
theorem tK:∀ {u:Un} {U:List Un} (h:qu u=false),ga true (u::U)=ga true U:=by iterate 3 show (bif qu u then _ else _)=_;rw [h];rfl
theorem pE:∀ {u:Un} {U:List Un} (h:qu u=false),ga false (u::U)=u::ga false U:=by iterate 3 show (bif qu u then _ else _)=_;rw [h];rfl
theorem wh:∀ {q:Bool} {U:List Un},qY q ((false,34)::U)=qY (!q) U:=by iterate 2 cases q<;>rfl
theorem uC:∀ {q:Bool} {u:Un} {U:List Un} (h:qu u=false),qY q (u::U)=qY q U:=by iterate 4 show (bif qu u then _ else _)=_;rw [h];rfl
theorem qF:∀ {V:List Un},∀ (U:List Un) (q:Bool),qY q U=true->ga q (U++V)=ga q U++ga false V/\qY q (U++V)=qY false V:=by iterate 1
 intro U;induction U with
 | nil=>intro q h;cases q with | true=>(dsimp only [qY] at h;simp at h) | false=>exact ⟨rfl,rfl⟩
 | cons u U Qj=>
  intro q h;cases e:qu u with
  | true=>have:=A5 e;subst this;rw [wh] at h;have ih:=Qj (!q) h;rw [bc,qS,qS,wh];exact ih
  | false=>rw [uC e] at h;have ih:=Qj q h;rw [bc,uC e];cases q with | true=>rw [tK e,tK e];exact ih | false=>rw [pE e,pE e,ih.1];exact ⟨rfl,ih.2⟩
theorem GQ:∀ (U:List Un),(34:Nat)∉gl U->ga false U=U:=by iterate 0
 intro U;induction U with
 | nil=>intro _;exact rfl
 | cons u U Qj=>
  intro h;have h1:qu u=false:=by cases e:qu u with | false=>rfl | true=>have:=A5 e;subst this;exact absurd (by rw [p0];simp [oY,oZ]) h
  rw [pE h1,Qj fun hm=>h (by rw [p0];simp [hm])]
theorem A3:∀ (U:List Un) (q:Bool),U.all zv=true->(ga q U).all zv=true:=by iterate 0
 intro U;induction U with
 | nil=>intro _ _;exact rfl
 | cons u U Qj=>
  intro q h;simp only [ez,ai] at h;cases e:qu u with
  | true=>have:=A5 e;subst this;rw [qS];exact Qj _ h.2
  | false=>cases q with | true=>rw [tK e];exact Qj _ h.2 | false=>rw [pE e];simp only [ez,ai];exact ⟨h.1,Qj _ h.2⟩
noncomputable def tq:Nat->List Un->Bool
| n,[]=>n==0
| n,u::U=>bif !u.1&&u.2==40 then tq (n+1) U else bif !u.1&&u.2==41 then (n !=0&&tq (n-1) U) else tq n U
theorem E6:o8 P1 "_strip_quoted_realnames" =some ⟨["addr"],fsc P1 "_strip_quoted_realnames",fb P1 "_strip_quoted_realnames"⟩:=by iterate 0 rfl'
noncomputable def Na:Expr:=D4 (at_ (fb P1 "_strip_quoted_realnames") 4)
noncomputable def Ob:List Stmt:=pW (at_ (fb P1 "_strip_quoted_realnames") 4)
noncomputable def Ox:Option Nat->D
| none=> .none
| some o=> .int o
structure UI (T:Qm) (A:List Nat) (s:Nat) (o:Option Nat):Prop where
 a:T.At "addr" (.str A)
 s:T.At "start" (.int s)
 o:T.At "open_pos" (Ox o)
 r:T.lookup ("result" :Str)=none
theorem UI.other:∀ {T:Qm} {A:List Nat} {s:Nat} {o:Option Nat} {d1 d2:D} (h:UI T A s o),UI (("ch",d1)::("pos",d2)::T) A s o:=by iterate 7 exact (⟨h.a,h.s,h.o,h.r⟩)
theorem Jg:∀ {m p s:Nat} {T:Qm} {A:List Nat} {rs:List D} {g:G} (h:UI T A s none),∃ T',turnF P1 (m+40) (fsc P1 "_strip_quoted_realnames") Na Ob (.tup [.int p,.str [34]]) ⟨T,[],some ("result",.lst rs)⟩ g=some (⟨T',[],some ("result",.lst rs)⟩,g,none)/\UI T' A s (some p):=by iterate 8 have h1:=h.a;have h2:=h.s;have h3:=h.o;have h4:=h.r;dsimp only [Ox] at h3;refine ⟨("open_pos",.int p)::("ch",.str [34])::("pos",.int p)::T,?_,⟨h.a,h.s,rfl,h.r⟩⟩;symm
theorem JE:∀ {m p s:Nat} {T:Qm} {A x:List Nat} {o:Option Nat} {rs:List D} {g:G} (h:UI T A s o) (hx:(x==[34])=false),∃ T',turnF P1 (m+40) (fsc P1 "_strip_quoted_realnames") Na Ob (.tup [.int p,.str x]) ⟨T,[],some ("result",.lst rs)⟩ g=some (⟨T',[],some ("result",.lst rs)⟩,g,none)/\UI T' A s o:=by iterate 11 refine ⟨_,?_,h.other (d1:= .str x) (d2:= .int p)⟩;symm
theorem DJ:∀ {A:List Nat} {s o:Nat} (h:s<=o) (h2:o<=A.length),slice A (some (s:Int)) (some (o:Int))=(A.take o).drop s:=by iterate 5
 have h3:¬ ((s:Int)<0):=by omega
 have h4:¬ ((o:Int)<0):=by omega
 simp only [slice,oW,oP,pI,h3,h4,if_false,aP];rw [dN h2,dN (by omega)]
theorem xy:∀ {α:Type} {A:List α} {s:Nat} (h:s<=A.length),slice A (some (s:Int)) none=A.drop s:=by iterate 4
 have h3:¬ ((s:Int)<0):=by omega
 simp only [slice,oW,oP,pI,h3,if_false,aP];rw [dN h,iY]
theorem Fk:∀ {m p s o:Nat} {T:Qm} {A:List Nat} {rs:List D} {g:G} (h:UI T A s (some o)) (Rl:s≠o) (hl:rs.length<1000),∃ T',turnF P1 (m+40) (fsc P1 "_strip_quoted_realnames") Na Ob (.tup [.int p,.str [34]]) ⟨T,[],some ("result",.lst rs)⟩ g=some (⟨T',[],some ("result",.lst (rs++[.str (slice A (some (s:Int)) (some (o:Int)))]))⟩,g,none)/\UI T' A (p+1) none:=by iterate 11
 have h1:=h.a;have h2:=h.s;have h3:=h.o;have h4:=h.r;dsimp only [Ox] at h3;have c1:(!((s:Int)==(o:Int)))=true:=by simp;omega
 have ha:∀ d,ownMeth "append" rs [d]=some (rs++[d]):=fun d=>rC (by unfold lim;omega);refine ⟨("open_pos",.none)::("start",.int (p+1:Nat))::("ch",.str [34])::("pos",.int p)::T,?_,⟨h.a,rfl,rfl,h.r⟩⟩;symm
 ·exact ha _
 symm
theorem Ec:∀ {m p s:Nat} {T:Qm} {A:List Nat} {rs:List D} {g:G} (h:UI T A s (some s)),∃ T',turnF P1 (m+40) (fsc P1 "_strip_quoted_realnames") Na Ob (.tup [.int p,.str [34]]) ⟨T,[],some ("result",.lst rs)⟩ g=some (⟨T',[],some ("result",.lst rs)⟩,g,none)/\UI T' A (p+1) none:=by iterate 8
 have h1:=h.a;have h2:=h.s;have h3:=h.o;have h4:=h.r;dsimp only [Ox] at h3;have c1:(!((s:Int)==(s:Int)))=false:=by simp
 refine ⟨("open_pos",.none)::("start",.int (p+1:Nat))::("ch",.str [34])::("pos",.int p)::T,?_,⟨h.a,rfl,rfl,h.r⟩⟩;symm
theorem LR:∀ {A pre:List Nat} {W:List Nat} (h:A=pre++W) (k:Nat) (hk:k<=pre.length),A.take k=pre.take k:=by iterate 6 rw [h,bZ hk]
theorem Ju:∀ {m:Nat} {A:List Nat} {g:G},∀ (U:List Un) (pre:List Nat) (o:Option Nat) (s:Nat) (rs:List (List Nat)) (T:Qm),A=pre++gl U->UI T A s o->qY o.isSome U=true->s<=o.getD pre.length->o.getD pre.length<=pre.length->rs.length+U.length<1000->
  ∃ (T':Qm) (s':Nat) (SN:List (List Nat)),iterLoop (turnF P1 (m+40) (fsc P1 "_strip_quoted_realnames") Na Ob) (pg pre.length U) ⟨T,[],some ("result",.lst (rs.map D.str))⟩ g=some (⟨T',[],some ("result",.lst (SN.map D.str))⟩,g,none)/\UI T' A s' none/\s'<=A.length/\
   SN.flatten++A.drop s'=rs.flatten++((pre.take (o.getD pre.length)).drop s++gl (ga o.isSome U))/\SN.length<1000:=by iterate 3
 intro U;induction U with
 | nil=>
  intro pre o s rs T hA hT hb hs ho hl;cases o with
  | some o=>(dsimp only [qY] at hb;simp at hb)
  | none=>
   simp only [gx] at hs;have e:A=pre:=by rw [hA];simp [gl]
   refine ⟨T,s,rs,rfl,hT,by rw [e];exact hs,?_,by simpa using hl⟩;rw [e];(dsimp only [ga,gl];simp)
 | cons u U Qj=>
  intro pre o s rs T hA hT hb hs ho hl;have hlu:(q9 u).length=1\/(q9 u).length=2:=by obtain ⟨a,c⟩:=u;cases a<;>simp [oY,oZ]
  have Y4:A=(pre++q9 u)++gl U:=by rw [hA,p0,bK]
  have Um:∃ p',pg pre.length (u::U)= .tup [.int (p':Nat),.str (q9 u)]::pg (pre++q9 u).length U/\(qu u=true->p'=pre.length):=by
   obtain ⟨a,c⟩:=u;cases a
   ·exact ⟨pre.length,by (dsimp only [pg];simp [oY,oZ]),fun _=>rfl⟩
   ·exact ⟨pre.length+1,by (dsimp only [pg];simp [oY,oZ]),fun h=>by simp [qu] at h⟩
  obtain ⟨p',Um,hp⟩:=Um;simp only [aI] at hl;cases e:qu u with
  | false=>
   rw [uC e] at hb;have hx:(q9 u==[34])=false:=by obtain ⟨a,c⟩:=u;cases a<;>simp [qu,oY,oZ] at e ⊢;exact e
   obtain ⟨T1,e1,Vr⟩:=JE (m:=m) (p:=p') (rs:=rs.map D.str) (g:=g) hT hx;obtain ⟨T',s',SN,e2,f1,f2,f3,f4⟩:=Qj (pre++q9 u) o s rs T1 Y4 Vr hb (by cases o<;>simp at hs ⊢ <;>omega) (by cases o<;>simp at ho ⊢;omega) (by omega);refine ⟨T',s',SN,?_,f1,f2,?_,f4⟩
   ·rw [Um,ol e1];exact e2
   ·rw [f3];cases o with | none=>simp only [gx,iY,iq] at hs ⊢;rw [pE e,p0,eT hs,bK] | some o=>simp only [gw,Option.isSome_some] at ho ⊢;rw [tK e,bZ ho]
  | true=>
   have hq:=A5 e;subst hq;rw [wh] at hb;rw [qS];obtain rfl:=hp rfl;have hAl:pre.length<A.length:=by rw [Y4];simp [oY,oZ]
   cases o with
   | none=>
    simp only [gx] at hs;obtain ⟨T1,e1,Vr⟩:=Jg (m:=m) (p:=pre.length) (rs:=rs.map D.str) (g:=g) hT;obtain ⟨T',s',SN,e2,f1,f2,f3,f4⟩:=Qj (pre++q9 (false,34)) (some pre.length) s rs T1 Y4 Vr hb (by simpa using hs) (by simp) (by omega);refine ⟨T',s',SN,?_,f1,f2,?_,f4⟩
    ·rw [Um];rw [show q9 (false,34)=[34] from rfl] at e2 ⊢;rw [ol e1];exact e2
    ·rw [f3];simp
   | some o=>
    simp only [gw] at hs ho;by_cases Rl:s=o
    ·subst Rl;obtain ⟨T1,e1,Vr⟩:=Ec (m:=m) (p:=pre.length) (rs:=rs.map D.str) (g:=g) hT;obtain ⟨T',s',SN,e2,f1,f2,f3,f4⟩:=Qj (pre++q9 (false,34)) none (pre.length+1) rs T1 Y4 Vr hb (by simp [oY,oZ]) (by simp) (by omega);refine ⟨T',s',SN,?_,f1,f2,?_,f4⟩
     ·rw [Um];rw [show q9 (false,34)=[34] from rfl] at e2 ⊢;rw [ol e1];exact e2
     ·rw [f3];simp [oY,oZ]
    ·obtain ⟨T1,e1,Vr⟩:=Fk (m:=m) (p:=pre.length) (rs:=rs.map D.str) (g:=g) hT Rl (by simp;omega);rw [DJ hs (by omega)] at e1;obtain ⟨T',s',SN,e2,f1,f2,f3,f4⟩:=Qj (pre++q9 (false,34)) none (pre.length+1) (rs++[(A.take o).drop s]) T1 Y4 Vr hb (by simp [oY,oZ]) (by simp) (by simp;omega);refine ⟨T',s',SN,?_,f1,f2,?_,f4⟩
     ·rw [Um];rw [show q9 (false,34)=[34] from rfl] at e2 ⊢;rw [ol e1];simpa using e2
     ·rw [f3,LR hA o ho];simp [oY,oZ]
theorem A8:∀ rs:List (List Nat),ya [] (rs.map D.str)=some rs.flatten
 | []=>rfl
 | [x]=>by rw [lW,mq,aS];rfl
 | x::y::rs=>by have ih:=A8 (y::rs);show ((ya [] ((y::rs).map D.str)).bind fun z=>some (x++[]++z))=_;rw [ih,aS];rfl
theorem zz:∀ {rs:List (List Nat)} {g:G} (h:rs.flatten.length<=lim),methD "join" (.str []) [.lst (rs.map D.str)] g=some (.str rs.flatten,g):=by iterate 3
 have:methD "join" (.str []) [.lst (rs.map D.str)] g=(ya [] (rs.map D.str)).bind fun r=>(EZ r).bind fun d=>some (d,g):=by rfl'
 rw [this,A8,bz,EZ,if_pos h];rfl
theorem CH:∀ U:List Un,U.length<=(gl U).length:=by iterate 0 intro U;induction U with | nil=>exact bN _ | cons Rv U Qj=>obtain ⟨a,c⟩:=Rv;have:=Qj;rw [p0];cases a<;>simp [oY,oZ]<;>omega
theorem Ds:∀ (U:List Un) (q:Bool),(gl (ga q U)).length<=(gl U).length:=by iterate 0
 intro U;induction U with
 | nil=>intro q;(dsimp only [ga];simp)
 | cons u U Qj=>
  intro q;rw [p0,aw];cases e:qu u with
  | true=>have:=A5 e;subst this;rw [qS];have:=Qj (!q);omega
  | false=>cases q with | true=>rw [tK e];have:=Qj true;omega | false=>rw [pE e,p0,aw];have:=Qj false;omega
theorem xZ:∀ {m:Nat} {U:List Un} {g:G} (h:U.all zv=true) (hb:qY false U=true) (hl:(gl U).length<900),ceCall P1 (m+60) "_strip_quoted_realnames" [.str (gl U)] g=some (.str (gl (ga false U)),g):=by iterate 6
 by_cases hq:(34:Nat)∈gl U
 ·have c1:(!decide ((34:Nat)∈gl U))=false:=by simp [hq]
  have Um:=yU h;have hul:=CH U;obtain ⟨T',s',SN,e1,hT,f2,f3,f4⟩:=Ju (m:=m+12) (g:=g) U [] none 0 [] [("open_pos",.none),("start",.int 0),("addr",.str (gl U))] rfl ⟨rfl,rfl,rfl,rfl⟩ hb (by simp) (by simp) (by simpa using (by omega:U.length<1000));rw [show pg ([]:List Nat).length U=units (gl U) from Um.symm] at e1;simp only [mq,a9,List.take_nil,ni,iq] at f3;have h1:=hT.a;have h2:=hT.s;have h4:=hT.r;have Zy:=Ds U false;have ha:∀ d,ownMeth "append" (SN.map D.str) [d]=some ((SN.map D.str)++[d]):=fun d=>rC (by simp [lim];omega);by_cases hc:s'<(gl U).length
  ·have c2:decide ((s':Int)<((gl U).length:Int))=true:=by simp;omega
   have hj:methD "join" (.str []) [.lst (SN.map D.str++[.str (slice (gl U) (some (s':Int)) none)])] g=some (.str (gl (ga false U)),g):=by rw [xy (by omega)];have:=zz (rs:=SN++[(gl U).drop s']) (g:=g) (by rw [fk,kF,f3];unfold lim;omega);rw [fk,kF,f3,dG] at this;exact this
   apply im (by rfl') E6 (by rfl');symm
   ·exact ha _
   symm
  ·have c2:decide ((s':Int)<((gl U).length:Int))=false:=by simp;omega
   have hj:methD "join" (.str []) [.lst (SN.map D.str)] g=some (.str (gl (ga false U)),g):=by rw [gR (by omega),aS] at f3;rw [<-f3];exact zz (by rw [f3];unfold lim;omega)
   apply im (by rfl') E6 (by rfl');symm
 ·have c1:(!decide ((34:Nat)∈gl U))=true:=by simp [hq]
  rw [GQ U hq];apply im (by rfl') E6 (by rfl');symm
theorem Ka:o8 P1 "_check_parenthesis" =some ⟨["addr"],fsc P1 "_check_parenthesis",fb P1 "_check_parenthesis"⟩:=by iterate 0 rfl'
noncomputable def PX:Expr:=D4 (at_ (fb P1 "_check_parenthesis") 2)
noncomputable def Qd:List Stmt:=pW (at_ (fb P1 "_check_parenthesis") 2)
structure CpT (T:Qm) (n:Nat):Prop where
 n:T.At "opens" (.int n)
 o:T.lookup ("own" :Str)=none
noncomputable abbrev IG (m:Nat):=turnF P1 (m+40) (fsc P1 "_check_parenthesis") PX Qd
theorem IR:∀ {m p n:Nat} {T:Qm} {g:G} (h:T.At "opens" (.int n)),∃ T',IG m (.tup [.int p,.str [40]]) ⟨T,[],none⟩ g=some (⟨T',[],none⟩,g,none)/\T'.At "opens" (.int (n+1:Nat)):=by iterate 6 refine ⟨("opens",.int (n+1:Nat))::("ch",.str [40])::("pos",.int p)::T,?_,rfl⟩;dsimp only [IG];symm
theorem Gk:∀ {m p n:Nat} {T:Qm} {g:G} (h:T.At "opens" (.int (n+1:Nat))),∃ T',IG m (.tup [.int p,.str [41]]) ⟨T,[],none⟩ g=some (⟨T',[],none⟩,g,none)/\T'.At "opens" (.int n):=by iterate 6
 have c1:decide (((n+1:Nat):Int)-1<0)=false:=by simp
 refine ⟨("opens",.int (((n+1:Nat):Int)-1))::("ch",.str [41])::("pos",.int p)::T,?_,?_⟩
 ·dsimp only [IG];symm
 ·show some _=some _;congr 2;omega
theorem Ly:∀ {m p:Nat} {T:Qm} {g:G} (h:T.At "opens" (.int (0:Nat))),∃ T',IG m (.tup [.int p,.str [41]]) ⟨T,[],none⟩ g=some (⟨T',[],none⟩,g,some (.bool false)):=by iterate 5 refine ⟨("opens",.int (-1))::("ch",.str [41])::("pos",.int p)::T,?_⟩;dsimp only [IG];symm
theorem JK:∀ {m p n:Nat} {x:List Nat} {T:Qm} {g:G} (h:T.At "opens" (.int n)) (h1:(x==[40])=false) (h2:(x==[41])=false),∃ T',IG m (.tup [.int p,.str x]) ⟨T,[],none⟩ g=some (⟨T',[],none⟩,g,none)/\T'.At "opens" (.int n):=by iterate 9 refine ⟨("ch",.str x)::("pos",.int p)::T,?_,h⟩;dsimp only [IG];symm
theorem A2:∀ (u:Un) (U:List Un) (p:Nat),∃ (q r:Nat),pg p (u::U)= .tup [.int q,.str (q9 u)]::pg r U:=by iterate 3
 obtain ⟨a,c⟩:=u;cases a
 ·exact ⟨p,_,rfl⟩
 ·exact ⟨p+1,_,rfl⟩
theorem v3:∀ {n:Nat} {u:Un} {U:List Un} (h1:(q9 u==[40])=false) (h2:(q9 u==[41])=false),tq n (u::U)=tq n U:=by iterate 5
 obtain ⟨a,c⟩:=u;cases a
 ·have h1:c≠40:=by rintro rfl;cases h1
  have h2:c≠41:=by rintro rfl;cases h2
  show (bif !false&&c==40 then _ else bif !false&&c==41 then _ else _)=_;rw [beq_eq_false_iff_ne.mpr h1,beq_eq_false_iff_ne.mpr h2];rfl
 ·rfl
noncomputable def Pa (b:Bool):Option D:=if b then some (.bool false) else none
theorem IN:∀ {m:Nat} {g:G},∀ (U:List Un) (p n:Nat) (T:Qm),T.At "opens" (.int n)->
  ∃ (T':Qm) (k:Nat) (b:Bool),iterLoop (IG m) (pg p U) ⟨T,[],none⟩ g=some (⟨T',[],none⟩,g,Pa b)/\(b=false->T'.At "opens" (.int k))/\tq n U=(!b&&k==0):=by iterate 2
 intro U;induction U with
 | nil=>intro p n T h;exact ⟨T,n,false,rfl,fun _=>h,rfl⟩
 | cons u U Qj=>
  intro p n T h;obtain ⟨q,r,e⟩:=A2 u U p;(rw [e];dsimp only [iterLoop]);by_cases h1:u=(false,40)
  ·subst h1;obtain ⟨T1,e1,hT⟩:=IR (m:=m) (p:=q) (g:=g) h;obtain ⟨T',k,b,f1,f2,f3⟩:=Qj r (n+1) T1 hT;refine ⟨T',k,b,?_,f2,?_⟩
   ·rw [show q9 (false,40)=[40] from rfl,e1];exact f1
   ·cases n<;>exact f3
  by_cases h2:u=(false,41)
  ·subst h2;cases n with | zero=>obtain ⟨T1,e1⟩:=Ly (m:=m) (p:=q) (g:=g) h;refine ⟨T1,0,true,?_,(fun h=>by cases h),rfl⟩;rw [show q9 (false,41)=[41] from rfl,e1];rfl | succ n=>obtain ⟨T1,e1,hT⟩:=Gk (m:=m) (p:=q) (g:=g) h;obtain ⟨T',k,b,f1,f2,f3⟩:=Qj r n T1 hT;refine ⟨T',k,b,?_,f2,f3⟩;rw [show q9 (false,41)=[41] from rfl,e1];exact f1
  have g1:(q9 u==[40])=false:=by obtain ⟨a,c⟩:=u;cases a<;>simp [oY,oZ] at h1 ⊢;exact h1
  have g2:(q9 u==[41])=false:=by obtain ⟨a,c⟩:=u;cases a<;>simp [oY,oZ] at h2 ⊢;exact h2
  obtain ⟨T1,e1,hT⟩:=JK (m:=m) (p:=q) (g:=g) h g1 g2;obtain ⟨T',k,b,f1,f2,f3⟩:=Qj r n T1 hT;refine ⟨T',k,b,?_,f2,?_⟩
  ·rw [e1];exact f1
  ·rw [v3 g1 g2];exact f3
theorem uK:∀ {m:Nat} {U:List Un} {g:G} (h:U.all zv=true) (hb:qY false U=true) (hl:(gl U).length<900),ceCall P1 (m+70) "_check_parenthesis" [.str (gl U)] g=some (.bool (tq 0 (ga false U)),g):=by iterate 6 have hs:=xZ (m:=m+6) (g:=g) h hb hl;have Um:=yU (A3 U false h);obtain ⟨T',k,b,e1,hT,f3⟩:=IN (m:=m+24) (g:=g) (ga false U) 0 0 [("opens",.int 0),("addr",.str (gl (ga false U))),("addr",.str (gl U))] rfl;rw [<-Um] at e1;rw [f3];simp only [aK,aM] at hs;cases b with | true=>apply im (by rfl') Ka (by rfl');symm | false=>have hT:=hT rfl;rw [show (!false&&k==0)=((k:Int)==0) from by cases k<;>rfl];apply im (by rfl') Ka (by rfl');symm
noncomputable def Sv:List (List Nat×Int):=[([33],54),([33,61],28),([37],24),([37,61],40),([38],19),([38,61],41),([40],7),([41],8),([42],16),([42,42],35),([42,42,61],46),([42,61],38),([43],14),([43,61],36),([44],12),([45],15),([45,61],37),([45,62],51),([46],23),([46,46,46],52),([47],17),([47,47],47),([47,47,61],48),([47,61],39),([58],11),([58,61],53),([59],13),([60],20),([60,60],33),([60,60,61],44),([60,61],29),([61],22),([61,61],27),([62],21),([62,61],30),([62,62],34),([62,62,61],45),([64],49),([64,61],50),([91],9),([93],10),([94],32),([94,61],43),([123],25),([124],18),([124,61],42),([125],26),([126],31)]
theorem CT:qm P1=Sv:=by iterate 0 rfl'
noncomputable def yj (x:List Nat):Bool:=(Sv.lookup x).isSome
noncomputable def pG (A:List Nat):Option (List Nat):=((([3,2,1]:List Nat).filter fun k=>yj (A.take k)).map fun k=>A.take k)[0]?
noncomputable def vg:Nat->List Nat->Option (List Int)
| 0,_=>none
| n+1,A=>if A==[92] then some [] else (pG A).bind fun pc=>(Sv.lookup pc).bind fun c=>(vg n (A.drop pc.length)).map (c::·)
theorem Lh:o8 P1 "_law_cut" =some ⟨["word"],fsc P1 "_law_cut",fb P1 "_law_cut"⟩:=by iterate 0 rfl'
noncomputable def O0:Expr:=D4 (at_ (fb P1 "_law_cut") 3)
noncomputable def OM:List Stmt:=pW (at_ (fb P1 "_law_cut") 3)
noncomputable def O7:List Stmt:=pW (at_ (fb P1 "_law_cut") 4)
noncomputable def Pp:Expr:=yi (at_ (fb P1 "_law_cut") 4)
structure Zh (T:Qm) (A:List Nat) (e:Nat):Prop where
 a:T.At "text" (.str A)
 e:T.At "ends" (.int e)
 o:T.lookup ("codes" :Str)=none
theorem tU:∀ {a b:List Nat} (h:(a++b).length<=lim),inop .Add (.str a) (.str b)=some (.str (a++b)):=by iterate 3
 have:inop .Add (.str a) (.str b)=EZ (a++b):=by rfl'
 rw [this,EZ,if_pos h]
theorem Mo:∀ (X:List Nat),cmp P1 .In (.str X) .tab=some (yj X):=by iterate 1 rw [yj,<-CT];rcases X with _ | ⟨c,_ | ⟨d,r⟩⟩<;>rfl'
theorem Dh:∀ {X:List Nat} {c:Int} (h:Sv.lookup X=some c),subD P1 .tab (.str X)=some (.int c):=by iterate 3
 have:subD P1 .tab (.str X)=((qm P1).lookup X).map .int:=by rfl'
 rw [this,CT,h];rfl
theorem uX:∀ {α:Type} {A:List α} {s:Nat},slice A none (some (s:Int))=A.take s:=by iterate 3
 have h3:¬ ((s:Int)<0):=by omega
 simp only [slice,oW,oP,pI,h3,if_false,aP,j0];rw [List.take_eq_take_min (i:=s),Nat.min_comm]
theorem tD:∀ {α:Type} {step:D->List D->G->Option (List D×G×Option D)} {g:G} {emb F:α->D} {b:α->Bool},∀ {xs:List α} {acc:List D},(∀ x∈xs,∀ acc,step (emb x) acc g=some (if b x then acc++[F x] else acc,g,none))->iterLoop step (xs.map emb) acc g=some (acc++(xs.filter b).map F,g,none):=by iterate 6
 intro xs;induction xs with
 | nil=>intro acc _;first | rfl | (rw [aS];rfl) | (show some _=some _;simp)
 | cons x xs Qj=>intro acc h;rw [aB,ol (h x (by simp) _)];rw [Qj fun x hx=>h x (by simp [hx])];cases e:b x<;>simp [e]
theorem Gz:∀ {m e c:Nat} {T:Qm} {A:List Nat} {g:G} (h:Zh T A e) (hl:A.length<900),∃ T',turnF P1 (m+40) (fsc P1 "_law_cut") O0 OM (.tup [.int e,.str [c]]) ⟨T,[],some ("codes",.lst [])⟩ g=some (⟨T',[],some ("codes",.lst [])⟩,g,none)/\Zh T' (A++[c]) (e+1):=by iterate 8
 have h1:=h.a;have h2:=h.e;have c1:(!((e:Int)==(e:Int)+1-1))=false:=by simp
 have ha:inop .Add (.str A) (.str [c])=some (.str (A++[c])):=tU (by simp [lim];omega);refine ⟨("text",.str (A++[c]))::("ends",.int ((e:Int)+1))::("unit",.str [c])::("place",.int e)::T,?_,⟨rfl,rfl,h.o⟩⟩;symm
theorem L2:∀ {m e c:Nat} {T:Qm} {A:List Nat} {g:G} (h:Zh T A e),∃ T',turnF P1 (m+40) (fsc P1 "_law_cut") O0 OM (.tup [.int (e+1:Nat),.str [92,c]]) ⟨T,[],some ("codes",.lst [])⟩ g=some (⟨T',[],some ("codes",.lst [])⟩,g,none)/\Zh T' A (e+2):=by iterate 7
 have h1:=h.a;have h2:=h.e;have c1:(!(((e+1:Nat):Int)==(e:Int)+2-1))=false:=by simp;omega
 refine ⟨("ends",.int ((e:Int)+2))::("unit",.str [92,c])::("place",.int (e+1:Nat))::T,?_,⟨h.a,rfl,h.o⟩⟩;symm
noncomputable def tw:List Un->List Nat
| []=>[]
| (true,_)::U=>tw U
| (false,c)::U=>c::tw U
theorem JI:∀ {m:Nat} {g:G},∀ (U:List Un) (e:Nat) (A:List Nat) (T:Qm),Zh T A e->A.length+U.length<900->
  ∃ T',iterLoop (turnF P1 (m+40) (fsc P1 "_law_cut") O0 OM) (pg e U++[.tup [.int (e+(gl U).length:Nat),.str [92]]]) ⟨T,[],some ("codes",.lst [])⟩ g=some (⟨T',[],some ("codes",.lst [])⟩,g,none)/\T'.At "text" (.str (A++tw U++[92]))/\T'.lookup ("codes" :Str)=none:=by iterate 2
 intro U;induction U with
 | nil=>intro e A T h hl;obtain ⟨T1,e1,h1⟩:=Gz (m:=m) (c:=92) (g:=g) h (by simpa using hl);refine ⟨T1,?_,by show T1.At "text" (.str (A++[]++[92]));rw [aS];exact h1.a,h1.o⟩;(dsimp only [pg];rw [a9];dsimp only [iterLoop]);rw [show e+(gl []).length=e from rfl,e1];rfl
 | cons Rv U Qj=>obtain ⟨b0,c⟩:=Rv;cases b0 with | true=>intro e A T h hl;simp only [aI] at hl;obtain ⟨T1,e1,h1⟩:=L2 (m:=m) (c:=c) (g:=g) h;obtain ⟨T',f1,f2,f3⟩:=Qj (e+2) A T1 h1 (by omega);refine ⟨T',?_,f2,f3⟩;(dsimp only [pg];rw [bc,ol e1,show e+(gl ((true,c)::U)).length=e+2+(gl U).length from by rw [p0];simp [oY,oZ];omega]);exact f1 | false=>intro e A T h hl;simp only [aI] at hl;obtain ⟨T1,e1,h1⟩:=Gz (m:=m) (c:=c) (g:=g) h (by omega);obtain ⟨T',f1,f2,f3⟩:=Qj (e+1) (A++[c]) T1 h1 (by simp;omega);refine ⟨T',?_,by rw [show tw ((false,c)::U)=[c]++tw U from rfl,<-bK];exact f2,f3⟩;(dsimp only [pg];rw [bc,ol e1,show e+(gl ((false,c)::U)).length=e+1+(gl U).length from by rw [p0];simp [oY,oZ];omega]);exact f1
theorem DY:∀ {A pc:List Nat} (h:pG A=some pc),pc.length<=A.length:=by iterate 3 unfold pG at h;rw [b8] at h;obtain ⟨k,hk,rfl⟩:=ba.mp h;simp;omega
noncomputable def PI:Expr->Expr
| .ListComp e _ _ _=>e
| _=>ex0
noncomputable def P9:Expr->Expr
| .ListComp _ [⟨t,_,_,_⟩] _ _=>t
| _=>ex0
noncomputable def PF:Expr->List Expr
| .ListComp _ [⟨_,_,i,_⟩] _ _=>i
| _=>[]
noncomputable def PY:Expr->aX
| .ListComp _ _ s _=>s
| _=> .mk .function [] false false []
noncomputable abbrev tg (m:Nat) (sc:aX) (st:St) (e:Expr):=turnL P1 m sc st (P9 e) (PI e) (PF e) (PY e)
noncomputable def P2:Expr:=NI (yi (at_ O7 0)) [0]
theorem H3:∀ {m:Nat} {A:List Nat} {cs:List D} {T:Qm} {g:G} (h1:T.At "text" (.str A)),iterLoop (tg (m+56) (fsc P1 "_law_cut") ⟨T,[],some ("codes",.lst cs)⟩ P2) [.int 3,.int 2,.int 1] [] g=some ((([3,2,1]:List Nat).filter fun k=>yj (A.take k)).map fun k=>D.str (A.take k),g,none):=by iterate 6
 refine (tD (xs:=[3,2,1]) (emb:=fun k:Nat=>D.int k) (b:=fun k=>yj (A.take k)) (F:=fun k=>D.str (A.take k)) ?_);intro k _ acc;unfold tg;have c1:cmp P1 .In (.str (slice A none (some (k:Int)))) .tab=some (yj (A.take k)):=by rw [uX];exact Mo _
 rw [<-uX];rw [<-uX] at c1;cases e:yj (slice A none (some (k:Int))) with | true=>rw [e] at c1;rw [if_pos rfl];symm | false=>rw [e] at c1;rw [if_neg (by decide)];symm
theorem JO:∀ {m:Nat} {A pc:List Nat} {c:Int} {cs:List D} {T:Qm} {g:G} (h1:T.At "text" (.str A)) (h3:T.lookup ("codes" :Str)=none) (hp:pG A=some pc) (hc:Sv.lookup pc=some c) (hl:cs.length<900),∃ T',ceSs P1 (m+60) (fsc P1 "_law_cut") ⟨T,[],some ("codes",.lst cs)⟩ O7 g=some (.next,⟨T',[],some ("codes",.lst (cs++[.int c]))⟩,g)/\T'.At "text" (.str (A.drop pc.length))/\T'.lookup ("codes" :Str)=none:=by iterate 12
 have hs:subD P1 (.lst ((([3,2,1]:List Nat).filter fun k=>yj (A.take k)).map fun k=>D.str (A.take k))) (.int 0)=some (.str pc):=by refine pU (k:=0) ?_;unfold pG at hp;rw [b8] at hp ⊢;obtain ⟨k,hk,rfl⟩:=ba.mp hp;rw [hk];rfl
 have ht:=Dh hc;have e1:=H3 (m:=m) (cs:=cs) (g:=g) h1;have ha:∀ d,ownMeth "append" cs [d]=some (cs++[d]):=fun d=>rC (by unfold lim;omega);have hpl:=DY hp;have hle:((([3,2,1]:List Nat).filter fun k=>yj (A.take k)).map fun k=>D.str (A.take k)).length<=lim:=by rw [aG];exact bw (dH _ _) (by decide)
 refine ⟨("text",.str (slice A (some (pc.length:Int)) none))::("piece",.str pc)::T,?_,by rw [<-xy hpl];rfl,h3⟩;symm
 ·exact ha _
 symm
theorem JR:∀ {m:Nat} {A:List Nat} {cs:List D} {T:Qm} {g:G} (h1:T.At "text" (.str A)),ceT P1 (m+60) (fsc P1 "_law_cut") ⟨T,[],some ("codes",.lst cs)⟩ Pp g=some (!(A==[92]),g):=by iterate 6 symm;rfl'
theorem HU:∀ {m:Nat} {g:G},∀ (n N:Nat) (A:List Nat) (T:Qm) (cs:List D) (cs':List Int),vg n A=some cs'->n<=N->cs.length+n<900->T.At "text" (.str A)->T.lookup ("codes" :Str)=none->
  ∃ T',vW (fun st g=>ceT P1 (m+60) (fsc P1 "_law_cut") st Pp g) (fun st g=>ceSs P1 (m+60) (fsc P1 "_law_cut") st O7 g) N ⟨T,[],some ("codes",.lst cs)⟩ g=some (.next,⟨T',[],some ("codes",.lst (cs++cs'.map D.int))⟩,g)/\T'.lookup ("codes" :Str)=none:=by iterate 2
 intro n;induction n with
 | zero=>intro _ _ _ _ _ h _ _ _ _;(dsimp only [vg] at h;simp at h)
 | succ n ih=>
  intro N A T cs cs' h hN hl h1 h3;cases N with
  | zero=>omega
  | succ N=>dsimp only [vg] at h;have e0:=JR (m:=m) (cs:=cs) (g:=g) h1;dsimp only [vW];simp only [e0,Option.bind_eq_bind,bz];cases ea:A==[92] with | true=>rw [ea,if_pos rfl] at h;cases h;exact ⟨T,by simp,h3⟩ | false=>rw [ea,if_neg (by decide)] at h;obtain ⟨pc,hp,h⟩:=gj.mp h;obtain ⟨c,hc,h⟩:=gj.mp h;obtain ⟨cs2,VX,rfl⟩:=ba.mp h;obtain ⟨T1,e1,f1,f3⟩:=JO (m:=m) (cs:=cs) (g:=g) h1 h3 hp hc (by omega);obtain ⟨T',e2,g3⟩:=ih N _ T1 (cs++[.int c]) cs2 VX (by omega) (by simp;omega) f1 f3;refine ⟨T',?_,g3⟩;simp only [Bool.not_false,if_true,e1,bz,show FK .next=some () from rfl];rw [e2];simp
theorem FQ:∀ {m:Nat} {U:List Un} {cs:List Int} {g:G} (h:U.all zv=true) (hb:qY false U=true) (hl:(gl U).length<800) (hc:vg 60 (tw (ga false U)++[92])=some cs),ceCall P1 (m+80) "_law_cut" [.str (gl U)] g=some (.lst (cs.map D.int),g):=by iterate 8
 have hs:=xZ (m:=m+12) (g:=g) h hb (by omega);simp only [aK,aM] at hs;have hu:=Bw (A3 U false h);have VQ:=Ds U false;have hl3:=CH (ga false U);have YQ:binop .Add (.str (gl (ga false U))) (.str [92])=some (.str (gl (ga false U)++[92])):=by have:=tU (a:=gl (ga false U)) (b:=[92]) (by simp [lim];omega);exact this
 obtain ⟨T1,e1,f1,f3⟩:=JI (m:=m+33) (g:=g) (ga false U) 0 [] [("ends",.int 0),("text",.str []),("word",.str (gl U))] ⟨rfl,rfl,rfl⟩ (by simp;omega);rw [dM,<-hu] at e1;rw [a9] at f1;obtain ⟨T2,e2,f4⟩:=HU (m:=m+12) (g:=g) 60 200 _ T1 [] cs hc (by omega) (by simp) f1 f3;apply im (by rfl') Lh (by rfl');symm
theorem xk:∀ {X:List Nat} {d:Nat} (hd:d∈([40,41,44,92]:List Nat)) (h:d∈X) (hl:2<=X.length),yj X=false:=by iterate 5
 have key:Sv.all (fun p=>p.1.length==1 ||!(p.1.any fun c=>([40,41,44,92]:List Nat).contains c))=true:=by decide+kernel
 have:Sv.lookup X=none:=by
  rw [gA];intro p hp;cases e:(X==p.1) with
  | false=>rw [bne,e];rfl
  | true=>
   have:=eq_of_beq e;subst this;have:=ak.mp key p hp;simp only [jD,beq_iff_eq,bG,lX] at this;rcases this with h1 | h1
   ·omega
   ·exact absurd (kO.mpr hd) (by simpa using h1 d h)
 rw [yj,this];rfl
theorem Lf:∀ {A:List Nat} (h:yj (A.take 3)=true),pG A=some (A.take 3):=by iterate 2 simp [pG,h]
theorem Lq:∀ {A:List Nat} (h3:yj (A.take 3)=false) (h:yj (A.take 2)=true),pG A=some (A.take 2):=by iterate 3 simp [pG,h,h3]
theorem Hu:∀ {A:List Nat} (h3:yj (A.take 3)=false) (h2:yj (A.take 2)=false) (h:yj (A.take 1)=true),pG A=some (A.take 1):=by iterate 4 simp [pG,h,h3,h2]
theorem G2:∀ {o:List Nat} {d:Nat} {r:List Nat} (ho:yj o=true) (hl:1<=o.length/\o.length<=3) (hd:d∈([40,41,44,92]:List Nat)),pG (o++d::r)=some o:=by iterate 6
 rcases o with _ | ⟨a,_ | ⟨b,_ | ⟨c,_ | ⟨e,o⟩⟩⟩⟩
 ·simp at hl
 ·refine Hu (xk hd ?_ ?_) (xk hd ?_ ?_) ho
  ·simp
  ·simp
  ·simp
  ·simp
 ·refine Lq (xk hd ?_ ?_) ho
  ·simp
  ·simp
 ·exact Lf ho
 ·simp at hl
theorem xz:∀ {c:Nat} {r:List Nat} (hc:c∈([40,41,44,92]:List Nat)) (h1:yj [c]=true) (hr:r≠[]),pG (c::r)=some [c]:=by iterate 5
 rcases r with _ | ⟨a,r⟩
 ·exact absurd rfl hr
 ·refine Hu (xk hc ?_ ?_) (xk hc ?_ ?_) h1
  ·simp
  ·simp
  ·simp
  ·simp
theorem uZ:∀ {n:Nat} {A pc:List Nat} {c:Int} {r:List Nat} {cs:List Int} (hA:A=pc++r) (Rl:A≠[92]) (hp:pG A=some pc) (hc:Sv.lookup pc=some c) (h:vg n r=some cs),vg (n+1) A=some (c::cs):=by iterate 11
 have e:(A==[92])=false:=by simpa using Rl
 (dsimp only [vg];rw [e,if_neg (by decide),hp,bz,hc,bz])
 subst hA;rw [mX,h];rfl
structure Sq (u:List Un) (o:List Nat) (c:Int):Prop where
 w:u.all zv=true
 b:qY false u=true
 s:tw (ga false u)=o
 t:Sv.lookup o=some c
 l:1<=o.length/\o.length<=3
 f:c≠7/\c≠8/\c≠12
 n:40∉o/\41∉o
 k:(gl u).length<=20/\u.length<=20
 z:o≠[92]
noncomputable def BT.size (t:BT):Nat:=(t.row () () () fun _=>()).length
theorem BT.QQ:∀ {l r:BT},(BT.node l r).size=l.size+r.size+3:=by iterate 2 (dsimp only [BT.size,BT.row];simp);omega
theorem BT.S4:∀ {α β:Type} (h:α->β) (o c k:α) (f:Nat->α),∀ t:BT,(t.row o c k f).map h=t.row (h o) (h c) (h k) fun i=>h (f i):=by iterate 7 intro t;induction t with | leaf i=>exact rfl | node l r Tt Ts=>(dsimp only [BT.row];simp [Tt,Ts])
theorem BT.Ue:∀ {α:Type} (o c k:α) (f:Nat->α) (t:BT),(t.row o c k f).length=t.size:=by iterate 6 rw [BT.size,<-BT.S4 (fun _=>()) o c k f t,aG]
noncomputable def BT.tx (t:BT) (op:Nat->List Nat):List Nat:=(t.row [40] [44] [41] op).flatten
noncomputable def BT.Q0 (t:BT) (cd:Nat->Int):List Int:=t.row 7 12 8 cd
noncomputable def BT.un (t:BT) (lf:Nat->List Un):List Un:=(t.row [(false,40)] [(false,44)] [(false,41)] lf).flatten
theorem Ln:∀ {o:List Nat} {c:Int} (h:Sv.lookup o=some c),yj o=true:=by iterate 3 rw [yj,h];rfl
theorem HH:∀ {lf:Nat->List Un} {op:Nat->List Nat} {cd:Nat->Int} (ahb:∀ i,Sq (lf i) (op i) (cd i)),∀ (t:BT) (n:Nat) (r:List Nat) (cs:List Int),vg n r=some cs->(∃ d r',r=d::r'/\d∈([40,41,44,92]:List Nat))->vg (n+t.size) (t.tx op++r)=some (t.Q0 cd++cs):=by iterate 4
 intro t;induction t with
 | leaf i=>
  rintro n r cs h ⟨d,r',e,hd⟩;have hi:=ahb i;have ex:BT.tx (.leaf i) op=op i:=by (dsimp only [BT.tx,BT.row];simp)
  rw [ex];refine uZ rfl ?_ ?_ hi.t h
  ·subst e;intro h1;have h2:=congrArg fj h1;have h3:=hi.l;rw [aw] at h2;simp only [aI,hG] at h2;omega
  ·rw [e];exact G2 (Ln hi.t) hi.l hd
 | node l r0 Tt Ts=>
  rintro n r cs h ⟨d,r',e,hd⟩;have hr:r≠[]:=by rw [e];simp
  have h1:vg (n+1) (41::r)=some (8::cs):=uZ (pc:=[41]) rfl (by simp) (xz (by simp) (by decide+kernel) hr) (by decide+kernel) h;have h2:=Ts (n+1) (41::r) (8::cs) h1 ⟨41,_,rfl,by simp⟩;have h3:vg (n+1+r0.size+1) (44::(r0.tx op++41::r))=some (12::(r0.Q0 cd++8::cs)):=uZ (pc:=[44]) rfl (by simp) (xz (by simp) (by decide+kernel) (by simp)) (by decide+kernel) h2;have h4:=Tt (n+1+r0.size+1) _ _ h3 ⟨44,_,rfl,by simp⟩;have h5:vg (n+1+r0.size+1+l.size+1) (40::(l.tx op++44::(r0.tx op++41::r)))=some (7::(l.Q0 cd++12::(r0.Q0 cd++8::cs))):=uZ (pc:=[40]) rfl (by simp) (xz (by simp) (by decide+kernel) (by simp)) (by decide+kernel) h4;have e1:n+(BT.node l r0).size=n+1+r0.size+1+l.size+1:=by rw [BT.QQ];omega
  rw [e1];have e2:(BT.node l r0).tx op++r=40::(l.tx op++44::(r0.tx op++41::r)):=by (dsimp only [BT.tx,BT.row];simp)
  have e3:(BT.node l r0).Q0 cd++cs=7::(l.Q0 cd++12::(r0.Q0 cd++8::cs)):=by (dsimp only [BT.Q0,BT.row];simp)
  rw [e2,e3];exact h5
theorem FC:∀ (U V:List Un),tw (U++V)=tw U++tw V:=by iterate 0
 intro U;induction U with
 | nil=>intro V;exact rfl
 | cons Rv U Qj=>obtain ⟨b0,c⟩:=Rv;cases b0 with | true=>intro V;exact Qj V | false=>intro V;exact congrArg (c::·) (Qj V)
theorem C0:∀ {l r:BT} {lf:Nat->List Un},(BT.node l r).un lf=[(false,40)]++(l.un lf++([(false,44)]++(r.un lf++[(false,41)]))):=by iterate 3 (dsimp only [BT.un,BT.row];simp)
theorem Bg:∀ {lf:Nat->List Un} {op:Nat->List Nat} {cd:Nat->Int} (ahb:∀ i,Sq (lf i) (op i) (cd i)),∀ t:BT,(t.un lf).all zv=true/\qY false (t.un lf)=true/\tw (ga false (t.un lf))=t.tx op/\(gl (t.un lf)).length<=20 * t.size:=by iterate 4
 intro t;induction t with
 | leaf i=>
  have ex:BT.tx (.leaf i) op=op i:=by (dsimp only [BT.tx,BT.row];simp)
  have eu:BT.un (.leaf i) lf=lf i:=by (dsimp only [BT.un,BT.row];simp)
  rw [ex,eu];exact ⟨(ahb i).w,(ahb i).b,(ahb i).s,(ahb i).k.1⟩
 | node l r Tt Ts=>
  obtain ⟨a1,b1,c1,d1⟩:=Tt;obtain ⟨a2,b2,c2,d2⟩:=Ts;have bb:∀ c:Nat,c≠34->qY false [(false,c)]=true:=fun c h=>by rw [uC (by simpa [qu] using h)];rfl
  have ss:∀ c:Nat,c≠34->ga false [(false,c)]=[(false,c)]:=fun c h=>by rw [pE (by simpa [qu] using h)];rfl
  rw [C0];have e1:=qF (V:=l.un lf++([(false,44)]++(r.un lf++[(false,41)]))) [(false,40)] false (bb 40 (by decide));have e2:=qF (V:=[(false,44)]++(r.un lf++[(false,41)])) (l.un lf) false b1;have e3:=qF (V:=r.un lf++[(false,41)]) [(false,44)] false (bb 44 (by decide));have e4:=qF (V:=[(false,41)]) (r.un lf) false b2;refine ⟨?_,?_,?_,?_⟩
  ·simp [a1,a2,zv]
  ·rw [e1.2,e2.2,e3.2,e4.2];exact bb 41 (by decide)
  ·rw [e1.1,e2.1,e3.1,e4.1,ss 40 (by decide),ss 44 (by decide),ss 41 (by decide)];simp only [FC,c1,c2];(dsimp only [tw,BT.tx,BT.row];simp)
  ·rw [BT.QQ];simp only [qJ,aw];simp [gl,oY,oZ] at d1 d2 ⊢;omega
theorem Gl:∀ {m:Nat} {lf:Nat->List Un} {op:Nat->List Nat} {cd:Nat->Int} {t:BT} {g:G} (ahb:∀ i,Sq (lf i) (op i) (cd i)) (hs:t.size<=30),ceCall P1 (m+80) "_law_cut" [.str (gl (t.un lf))] g=some (.lst ((t.Q0 cd).map D.int),g):=by iterate 8
 obtain ⟨a1,b1,c1,d1⟩:=Bg ahb t;refine FQ a1 b1 (by omega) ?_;rw [c1];obtain ⟨k,hk⟩:∃ k,60=k+1+t.size:=⟨59-t.size,by omega⟩
 have h0:vg (k+1) [92]=some []:=rfl;have:=HH ahb t (k+1) [92] [] h0 ⟨92,[],rfl,by simp⟩;rw [hk,this,aS]
noncomputable def dep:Nat->List Int->Option Nat
| n,[]=>some n
| n,c::r=>if c=7 then dep (n+1) r else if c=8 then (match n with
  | 0=>none
  | n+1=>dep n r) else dep n r
theorem qT (n:Nat) (c:Int) (r:List Int):dep n (c::r)=if c=7 then dep (n+1) r else if c=8 then (match n with
  | 0=>none
  | n+1=>dep n r) else dep n r:=by cases n<;>rfl
theorem wV:∀ (a b:List Int) (n:Nat),dep n (a++b)=(dep n a).bind fun m=>dep m b:=by iterate 0
 intro a;induction a with
 | nil=>intro b n;exact rfl
 | cons c a Qj=>
  intro b n;rw [bc,qT,qT];split
  ·exact Qj b _
  ·split
   ·cases n with | zero=>rfl | succ n=>exact Qj b _
   ·exact Qj b _
structure Z3 (p:List Un×Int):Prop where
 w:p.1.all zv=true
 b:qY false p.1=true
 o:p.2=7->ga false p.1=[(false,40)]
 c:p.2=8->ga false p.1=[(false,41)]
 n:p.2≠7->p.2≠8->40∉tw (ga false p.1)/\41∉tw (ga false p.1)
 k:p.1.length<=20/\(gl p.1).length<=20
theorem sW:∀ (S:List Un) (n:Nat) (R:List Un),40∉tw S->41∉tw S->tq n (S++R)=tq n R:=by iterate 0
 intro S;induction S with
 | nil=>intro n R _ _;exact rfl
 | cons Rv S Qj=>obtain ⟨b0,c⟩:=Rv;cases b0 with | true=>intro n R h1 h2;rw [bc,v3 (by simp [oY,oZ]) (by simp [oY,oZ])];exact Qj n R h1 h2 | false=>intro n R h1 h2;(dsimp only [tw] at h1 h2;simp only [aq,not_or] at h1 h2);rw [bc,v3 (by simp [oY,oZ];exact fun e=>h1.1 e.symm) (by simp [oY,oZ];exact fun e=>h2.1 e.symm)];exact Qj n R h1.2 h2.2
theorem FJ:∀ (P:List (List Un×Int)) (n:Nat),(∀ p∈P,Z3 p)->tq n (ga false (P.flatMap (·.1)))=(dep n (P.map (·.2))==some 0)/\qY false (P.flatMap (·.1))=true/\(P.flatMap (·.1)).all zv=true/\(gl (P.flatMap (·.1))).length<=20 * P.length:=by iterate 0
 intro P;induction P with
 | nil=>intro n _;cases n<;>exact ⟨rfl,rfl,rfl,by simp [gl]⟩
 | cons p P Qj=>
  intro n h;have hp:=h p (by simp);have ih:=fun n=>Qj n fun q hq=>h q (by simp [hq]);have e:=qF (V:=P.flatMap (·.1)) p.1 false hp.b;rw [iO,e.1,e.2];refine ⟨?_,(ih n).2.1,?_,?_⟩
  ·rw [aB,qT];split
   ·rename_i h7;rw [hp.o h7,<-(ih (n+1)).1];cases n<;>rfl
   ·split
    ·rename_i h8;rw [hp.c h8];cases n with | zero=>rfl | succ n=>rw [<-(ih n).1];rfl
    ·rename_i h7 h8;have hn:=hp.n h7 h8;rw [sW _ _ _ hn.1 hn.2];exact (ih n).1
  ·rw [jC,hp.w,(ih n).2.2.1];rfl
  ·have:=(ih n).2.2.2;have:=hp.k;rw [qJ,aw,aI];omega
theorem xD:∀ {l r:BT} {cd:Nat->Int},(BT.node l r).Q0 cd=7::(l.Q0 cd++12::(r.Q0 cd++[8])):=by iterate 3 (dsimp only [BT.Q0,BT.row];simp)
theorem uT:∀ {t:BT} {cd:Nat->Int},(t.Q0 cd).length=t.size:=by iterate 2 exact (BT.Ue ..)
theorem Af:∀ {cd:Nat->Int} (ahb:∀ i,cd i≠7/\cd i≠8/\cd i≠12),∀ (t:BT) (n:Nat),dep n (t.Q0 cd)=some n:=by iterate 2 intro t;induction t with | leaf i=>intro n;(dsimp only [BT.Q0,BT.row,dep];simp [ahb i]) | node l r Tt Ts=>intro n;rw [xD,qT,if_pos rfl,wV,Tt,bz,qT,if_neg (by decide),if_neg (by decide),wV,Ts];rfl
theorem zd:∀ {cd:Nat->Int} (ahb:∀ i,cd i≠7/\cd i≠8/\cd i≠12),∀ (t:BT) (n j:Nat),(t.Q0 cd)[j]? =some 12->∃ m,n<m/\dep n ((t.Q0 cd).take j)=some m:=by iterate 2
 intro t;induction t with
 | leaf i=>intro n j h;cases j with | zero=>(dsimp only [BT.Q0,BT.row] at h;simp at h);exact absurd h (ahb i).2.2 | succ j=>(dsimp only [BT.Q0,BT.row] at h;simp at h)
 | node l r Tt Ts=>
  intro n j h;rw [xD] at h ⊢;cases j with
  | zero=>simp at h
  | succ j=>
   rw [cL] at h;rw [dh,qT,if_pos rfl];by_cases h1:j<(l.Q0 cd).length
   ·rw [bg h1] at h;obtain ⟨m,h2,h3⟩:=Tt (n+1) j h;exact ⟨m,by omega,by rw [bZ (by omega)];exact h3⟩
   ·rw [aT (by omega)] at h;obtain ⟨i,hi⟩:∃ i,j=(l.Q0 cd).length+i:=⟨j-(l.Q0 cd).length,by omega⟩
    subst hi;rw [eC] at h;rw [jz,wV,Af ahb l,bz];cases i with
    | zero=>exact ⟨n+1,by omega,by rfl⟩
    | succ i=>
     rw [cL] at h;rw [dh,qT,if_neg (by decide),if_neg (by decide)];by_cases h4:i<(r.Q0 cd).length
     ·rw [bg h4] at h;obtain ⟨m,h5,h6⟩:=Ts (n+1) i h;exact ⟨m,by omega,by rw [bZ (by omega)];exact h6⟩
     ·rw [aT (by omega)] at h;generalize i-(r.Q0 cd).length=q at h;cases q<;>simp at h
noncomputable def An (cs:List Int) (k:Nat):Bool:=cs[k]? ==some 12&&dep 0 ((cs.take k).drop 1)==some 0
theorem H4:∀ {cd:Nat->Int} (ahb:∀ i,cd i≠7/\cd i≠8/\cd i≠12) (l r:BT) (k:Nat),An ((BT.node l r).Q0 cd) k=(k==l.size+1):=by iterate 5
 rw [<-uT (t:=l) (cd:=cd)];unfold An;rw [xD];cases k with
 | zero=>rfl
 | succ j=>
  rw [cL,dh,List.drop_one,List.tail_cons];by_cases h1:j<(l.Q0 cd).length
  ·rw [bg h1,bZ (by omega)];have Rl:(j+1==(l.Q0 cd).length+1)=false:=by simp;omega
   rw [Rl];cases e:((l.Q0 cd)[j]? ==some 12) with | false=>rfl | true=>obtain ⟨m,h2,h3⟩:=zd ahb l 0 j (eq_of_beq e);rw [h3];simp;omega
  ·rw [aT (by omega)];obtain ⟨i,hi⟩:∃ i,j=(l.Q0 cd).length+i:=⟨j-(l.Q0 cd).length,by omega⟩
   subst hi;rw [eC,jz,wV,Af ahb l,bz];cases i with
   | zero=>show (true&&true)=_;simp
   | succ i=>
    have Rl:((l.Q0 cd).length+(i+1)+1==(l.Q0 cd).length+1)=false:=by simp
    rw [Rl,cL,dh,qT,if_neg (by decide),if_neg (by decide)];by_cases h4:i<(r.Q0 cd).length
    ·rw [bg h4,bZ (by omega)];cases e:((r.Q0 cd)[i]? ==some 12) with | false=>rfl | true=>obtain ⟨m,h5,h6⟩:=zd ahb r 0 i (eq_of_beq e);rw [h6];simp;omega
    ·rw [aT (by omega)];generalize i-(r.Q0 cd).length=q;cases q<;>simp
theorem BS:∀ (q:Nat),∀ n,(aN n).filter (fun k=>k==q)=if q<n then [q] else []:=by iterate 1
 intro n;induction n with
 | zero=>simp
 | succ n Qj=>
  rw [dF,iF,Qj];by_cases h1:q<n
  ·have:(n==q)=false:=by simp;omega
   simp [h1,this];omega
  ·by_cases h2:q=n
   ·subst h2;simp
   ·have:(n==q)=false:=by simp;omega
    simp [h1,this];omega
theorem JP:∀ {cd:Nat->Int} (ahb:∀ i,cd i≠7/\cd i≠8/\cd i≠12) (l r:BT),(aN ((BT.node l r).Q0 cd).length).filter (An ((BT.node l r).Q0 cd))=[l.size+1]:=by iterate 4 have:An ((BT.node l r).Q0 cd)=fun k=>k==l.size+1:=funext fun k=>H4 ahb l r k;rw [this,BS,uT,BT.QQ,if_pos (by omega)]
noncomputable def BT.nm (t:BT) (cd:Nat->Int) (n:Nat):Int:=match t with
| .leaf i=>cd i
| .node _ _=>256+n
noncomputable def BT.Qu (cd:Nat->Int):BT->Nat->List (List D)
| .leaf _,_=>[]
| .node l r,n=>[.int (l.nm cd (n+1)),.int (r.nm cd (n+1+(l.Qu cd (n+1)).length))]::(l.Qu cd (n+1)++r.Qu cd (n+1+(l.Qu cd (n+1)).length))
noncomputable def BT.Q2 (t:BT) (lf:Nat->List Un) (cd:Nat->Int):List (List Un×Int):=t.row ([(false,40)],7) ([(false,44)],12) ([(false,41)],8) fun i=>(lf i,cd i)
theorem xY:∀ {l r:BT} {lf:Nat->List Un} {cd:Nat->Int},(BT.node l r).Q2 lf cd=([(false,40)],7)::(l.Q2 lf cd++([(false,44)],12)::(r.Q2 lf cd++[([(false,41)],8)])):=by iterate 4 (dsimp only [BT.Q2,BT.row];simp)
theorem zI:∀ {t:BT} {lf:Nat->List Un} {cd:Nat->Int},(t.Q2 lf cd).length=t.size:=by iterate 3 exact (BT.Ue ..)
theorem Dc:∀ {t:BT} {lf:Nat->List Un} {cd:Nat->Int},(t.Q2 lf cd).map (·.2)=t.Q0 cd:=by iterate 3 exact (BT.S4 ..)
theorem Im:∀ {c:Nat} (h:c≠34),qY false [(false,c)]=true:=by iterate 2 rw [uC (by simpa [qu] using h)];rfl
theorem zG:∀ {c:Nat} (h:c≠34),ga false [(false,c)]=[(false,c)]:=by iterate 2 rw [pE (by simpa [qu] using h)];rfl
theorem LP:∀ {lf:Nat->List Un} {op:Nat->List Nat} {cd:Nat->Int} (ahb:∀ i,Sq (lf i) (op i) (cd i)),∀ (t:BT),∀ p∈t.Q2 lf cd,Z3 p:=by iterate 4
 intro t;induction t with
 | leaf i=>intro p hp;(dsimp only [BT.Q2,BT.row] at hp;simp only [ej] at hp);subst hp;have h:=ahb i;exact ⟨h.w,h.b,fun e=>absurd e h.f.1,fun e=>absurd e h.f.2.1,fun _ _=>by rw [h.s];exact h.n,⟨h.k.2,h.k.1⟩⟩
 | node l r Tt Ts=>
  intro p hp;rw [xY] at hp;simp only [aq,bF,aO,or_false] at hp;rcases hp with rfl | hp | rfl | hp | rfl
  ·exact ⟨rfl,Im (by decide),fun _=>zG (by decide),fun e=>absurd e (by decide),fun e=>absurd rfl e,by decide⟩
  ·exact Tt p hp
  ·exact ⟨rfl,Im (by decide),fun e=>absurd e (by decide),fun e=>absurd e (by decide),fun _ _=>by rw [zG (by decide)];decide,by decide⟩
  ·exact Ts p hp
  ·exact ⟨rfl,Im (by decide),fun e=>absurd e (by decide),fun _=>zG (by decide),fun _ e=>absurd rfl e,by decide⟩
theorem N3:∀ {p:bY} {n kk l:Nat} {sc:aX} {st:St} {g g1 g2:G} {m t:Str} {ap cp sp lp pos tp:Pos} {es:List Expr} {i:Expr} {k:D} {xs ys:List D} {ob:MO} {rows:List (List D)} (hm:(m==("extend" :Str)&&ap.endLine==cp.line)=true) (h1:ceE p n sc st (.Name t tp) g=some (.loc l,g1)) (h2:ceE p n sc st i g1=some (k,g2)) (hk:qq k=some kk) (h3:vU p sc st es=some ys) (h4:g2[l]? =some ob) (h5:sR ob=some rows) (h6:rows[kk]? =some xs) (h7:(xs++ys).length<=lim),ceS p (n+1) sc st (.Expr (.Call (.Attribute (.Subscript (.Name t tp) i sp) m ap) [.List es lp] [] cp) pos) g=some (.next,st,g2.set l (.Qu (rows.set kk (xs++ys)))):=by iterate 33 exact (f8 (oM hm) (f8 h1 (f8 rfl (f8 h2 (f8 hk (f8 h3 (f8 h4 (f8 h5 (f8 h6 (f8 (oM (decide_eq_true h7)) rfl))))))))))
theorem Dn:o8 P1 "_law_read" =some ⟨["pieces","codes","table"],fsc P1 "_law_read",fb P1 "_law_read"⟩:=by iterate 0 rfl'
noncomputable def pD (P:List (List Un×Int)):List D:=P.map fun p=> .str (gl p.1)
noncomputable def cD (P:List (List Un×Int)):List D:=P.map fun p=> .int p.2
noncomputable def PZ:Expr:=yi (at_ (fb P1 "_law_read") 3)
theorem AC:∀ {α:Type} {A:List α} {a b:Nat} (h1:a<=b) (h2:b<=A.length),slice A (some (a:Int)) (some (b:Int))=(A.take b).drop a:=by iterate 6
 have h3:¬ ((a:Int)<0):=by omega
 have h4:¬ ((b:Int)<0):=by omega
 simp only [slice,oW,oP,pI,h3,h4,if_false,aP];rw [dN h2,dN (by omega)]
theorem EO:∀ {α:Type} {A:List α} {a:Nat} (h1:a+1<=A.length),slice A (some (a:Int)) (some (-1))=(A.take (A.length-1)).drop a:=by iterate 4
 have h3:¬ ((a:Int)<0):=by omega
 have h4:((-1:Int)<0):=by omega
 simp only [slice,oW,oP,pI,h3,h4,if_false,if_true,aP];rw [dN (by omega),show (-1+(A.length:Int)).toNat=A.length-1 from by omega]
theorem AO:∀ P:List (List Un×Int),(P.map fun p=>gl p.1).flatten=gl (P.flatMap (·.1)):=by iterate 0 intro P;induction P with | nil=>exact rfl | cons p P Qj=>rw [aB,lW,iO,qJ,Qj]
theorem zq:∀ {P:List (List Un×Int)} {g:G} (h:(gl (P.flatMap (·.1))).length<=lim),methD "join" (.str []) [.lst (pD P)] g=some (.str (gl (P.flatMap (·.1))),g):=by iterate 3 have:=zz (rs:=P.map fun p=>gl p.1) (g:=g) (by rw [AO];exact h);rw [AO,b7] at this;exact this
theorem IJ:∀ {m:Nat} {P:List (List Un×Int)} {T:Qm} {g:G} (hP:∀ p∈P,Z3 p) (hl:P.length<=30) (h1:T.At "pieces" (.lst (pD P))) (h2:T.At "codes" (.lst (cD P))),iterLoop (tg (m+84) (fsc P1 "_law_read") ⟨T,[],none⟩ PZ) ((aN P.length).map fun k:Nat=>D.int k) [] g=some (((aN P.length).filter (An (P.map (·.2)))).map fun k:Nat=>D.int k,g,none):=by iterate 8
 refine tD (b:=An (P.map (·.2))) (F:=fun k:Nat=>D.int k) ?_;intro k hk acc;have hk:=cz.mp hk;unfold tg;have hs:subD P1 (.lst (cD P)) (.int (k:Int))=some (.int P[k].2):=pU (by simp [cD,hk]);have ht:subD P1 .tab (.str [44])=some (.int 12):=Dh (by decide+kernel);have hm:An (P.map (·.2)) k=(P[k].2==12&&dep 0 (((P.map (·.2)).take k).drop 1)==some 0):=by unfold An;rw [b8,au hk];rfl
 rw [hm];cases e:(P[k].2==12) with
 | false=>rw [j2,if_neg (by decide)];symm
 | true=>
  rw [Bool.true_and];have YC:k≠0\/k=0:=by omega
  have Zy:slice (pD P) (some 1) (some (k:Int))=pD ((P.take k).drop 1):=by
   by_cases h0:k=0
   ·subst h0;simp [slice,oW,oP,pI,pD]
   ·rw [show (1:Int)=((1:Nat):Int) from rfl,AC (by omega) (by simp [pD];omega)];simp [pD,kn]
  have hQ:∀ p∈(P.take k).drop 1,Z3 p:=fun p hp=>hP p (cZ (eZ hp));obtain ⟨d1,d2,d3,d4⟩:=FJ ((P.take k).drop 1) 0 hQ;have hll:((P.take k).drop 1).length<=30:=by simp;omega
  have hj:=zq (P:=(P.take k).drop 1) (g:=g) (by unfold lim;omega);rw [<-Zy] at hj;have hc:=uK (m:=m+8) (g:=g) d3 d2 (by omega);simp only [aK,aM] at hc;rw [d1] at hc;rw [<-kn,<-ng];generalize (dep 0 (((P.take k).drop 1).map (·.2))==some 0)=b at hc;cases b with | true=>rw [if_pos rfl];symm | false=>rw [if_neg (by decide)];symm
theorem HO:∀ {P:List (List Un×Int)},(pD P).length=P.length:=by iterate 1 simp [pD]
theorem Gq:∀ {P:List (List Un×Int)},(cD P).length=P.length:=by iterate 1 simp [cD]
theorem HM:∀ {α:Type} {a b:α} {x y:List α},slice (a::(x++b::y)) (some (1:Int)) (some ((x.length+1:Nat):Int))=x:=by iterate 5 rw [show (1:Int)=((1:Nat):Int) from rfl,AC (by omega) (by simp)];simp
theorem Ha:∀ {α:Type} {a b c:α} {x y:List α},slice (a::(x++b::(y++[c]))) (some ((x.length+2:Nat):Int)) (some (-1))=y:=by iterate 6
 rw [EO (by simp)];have e1:(a::(x++b::(y++[c]))).length-1=(a::(x++b::y)).length:=by simp;omega
 have e2:a::(x++b::(y++[c]))=(a::(x++b::y))++[c]:=by simp
 rw [e1,e2,List.take_left];have e3:a::(x++b::y)=(a::(x++[b]))++y:=by simp
 rw [e3,eT (by simp),gR (by simp),a9]
theorem IY:∀ {α:Type} {a:List (List α)} {x y:List α} {b:List (List α)},(a++x::b).set a.length y=a++y::b:=by iterate 5 rw [g0 _ _ (by omega),iW];rfl
theorem Co:∀ {n j:Nat} {g:G} {rows:List (List D)} (hn:30<=n) (h:g[j]? =some (.Qu rows)),ceCall P1 (n+1) "len" [.loc j] g=some (.int rows.length,g):=by iterate 6 refine qH (h:=Bt) (by rfl') hn ?_;show (g[j]?.bind _).bind _=_;rw [h];rfl
theorem H5:∀ (cd:Nat->Int),∀ (t:BT) (n:Nat),(t.Qu cd n).length<=t.size:=by iterate 1 intro t;induction t with | leaf _=>intro _;(dsimp only [BT.Qu];simp) | node l r Tt Ts=>intro n;have:=Tt (n+1);have:=Ts (n+1+(l.Qu cd (n+1)).length);(rw [BT.QQ];dsimp only [BT.Qu];rw [aI,aw]);omega
theorem Mr:∀ {p:bY} {n kk l:Nat} {sc:aX} {st:St} {g:G} {m t:Str} {ap cp sp lp pos tp:Pos} {es:List Expr} {i:Expr} {k:D} {xs ys:List D} {ob:MO} {rows:List (List D)} (hm:(m==("extend" :Str)&&ap.endLine==cp.line)=true) (h1:ceE p n sc st (.Name t tp) g=some (.loc l,g)) (h2:ceE p n sc st i g=some (k,g)) (hk:qq k=some kk) (h3:vU p sc st es=some ys) (h4:g[l]? =some ob) (h5:sR ob=some rows) (h6:rows[kk]? =some xs) (h7:(xs++ys).length<=lim),ceS p (n+1) sc st (.Expr (.Call (.Attribute (.Subscript (.Name t tp) i sp) m ap) [.List es lp] [] cp) pos) g=some (.next,st,g.set l (.Qu (rows.set kk (xs++ys)))):=by iterate 31 exact (N3 hm h1 h2 hk h3 h4 h5 h6 h7)
theorem CN:∀ {lf:Nat->List Un} {op:Nat->List Nat} {cd:Nat->Int} (ahb:∀ i,Sq (lf i) (op i) (cd i)),∀ (t:BT) (N j:Nat) (g:G) (rows:List (List D)),90+11 * t.dep<=N->t.size<=30->g[j]? =some (.Qu rows)->rows.length+t.size<=200->
  ceCall P1 N "_law_read" [.lst (pD (t.Q2 lf cd)),.lst (cD (t.Q2 lf cd)),.loc j] g=some (.int (t.nm cd rows.length),g.set j (.Qu (rows++t.Qu cd rows.length))):=by iterate 4
 intro t;induction t with
 | leaf i=>
  intro N j g rows hN hs hg hr;obtain ⟨k,rfl⟩:∃ k,N=k+90:=⟨N-90,by omega⟩
  have eg:g.set j (.Qu (rows++BT.Qu cd (.leaf i) rows.length))=g:=by obtain ⟨hj,he⟩:=aj.mp hg;(dsimp only [BT.Qu];simp [<-he])
  rw [eg];apply im (by rfl') Dn (by rfl');symm
 | node l r Tt Ts=>
  intro N j g rows hN hs hg hr;have hdl:l.dep<=max l.dep r.dep:=Nat.le_max_left ..;have ZN:r.dep<=max l.dep r.dep:=Nat.le_max_right ..;have hN':90+11 * (max l.dep r.dep+1)<=N:=hN;obtain ⟨k,rfl⟩:∃ k,N=k+101:=⟨N-101,by omega⟩
  have hP:=LP ahb (.node l r);have hlen:=zI (t:= .node l r) (lf:=lf) (cd:=cd);have TQ:=JP (cd:=cd) (fun i=>(ahb i).f.imp id fun h=>⟨h.1,h.2⟩) l r;rw [uT,<-Dc (lf:=lf)] at TQ;have e3:=fun T h1 h2=>IJ (m:=k+10) (T:=T) (g:=g.set j (.Qu (rows++[[]]))) hP (by rw [hlen];exact hs) h1 h2;rw [hlen,TQ] at e3;rw [BT.QQ] at hs hr;have RJ:rows.length<lim:=by unfold lim;omega
  have ecd:cD ((BT.node l r).Q2 lf cd)= .int 7::(cD (l.Q2 lf cd)++ .int 12::(cD (r.Q2 lf cd)++[.int 8])):=by rw [xY];simp [cD]
  have epd:pD ((BT.node l r).Q2 lf cd)= .str (gl [(false,40)])::(pD (l.Q2 lf cd)++ .str (gl [(false,44)])::(pD (r.Q2 lf cd)++[.str (gl [(false,41)])])):=by rw [xY];simp [pD]
  have lA:(pD ((BT.node l r).Q2 lf cd)).length=l.size+r.size+3:=by rw [HO,hlen,BT.QQ]
  have lB:(cD ((BT.node l r).Q2 lf cd)).length=l.size+r.size+3:=by rw [Gq,hlen,BT.QQ]
  have xl:(pD (l.Q2 lf cd)).length=l.size:=by rw [HO,zI]
  have yl:(cD (l.Q2 lf cd)).length=l.size:=by rw [Gq,zI]
  have s1:slice (pD ((BT.node l r).Q2 lf cd)) (some 1) (some ((l.size+1:Nat):Int))=pD (l.Q2 lf cd):=by rw [epd,<-xl];exact HM
  have s2:slice (cD ((BT.node l r).Q2 lf cd)) (some 1) (some ((l.size+1:Nat):Int))=cD (l.Q2 lf cd):=by rw [ecd,<-yl];exact HM
  have s3:slice (pD ((BT.node l r).Q2 lf cd)) (some (((l.size+1:Nat):Int)+1)) (some (-1))=pD (r.Q2 lf cd):=by rw [epd,<-xl];exact Ha
  have s4:slice (cD ((BT.node l r).Q2 lf cd)) (some (((l.size+1:Nat):Int)+1)) (some (-1))=cD (r.Q2 lf cd):=by rw [ecd,<-yl];exact Ha
  have hj:j<g.length:=(aj.mp hg).1;have g1j:(g.set j (.Qu (rows++[[]])))[j]? =some (.Qu (rows++[[]])):=by simp [hj]
  have tl1:=H5 cd l (rows.length+1);have ihl:=Tt (k+91) j _ (rows++[[]]) (by omega) (by omega) g1j (by simp;omega);have el1:(rows++[[]]).length=rows.length+1:=by simp
  rw [el1,gZ] at ihl;have g2j:(g.set j (.Qu (rows++[[]]++l.Qu cd (rows.length+1))))[j]? =some (.Qu (rows++[[]]++l.Qu cd (rows.length+1))):=by simp [hj]
  have ihr:=Ts (k+90) j _ _ (by omega) (by omega) g2j (by simp;omega);have el2:(rows++[[]]++l.Qu cd (rows.length+1)).length=rows.length+1+(l.Qu cd (rows.length+1)).length:=by simp;omega
  rw [el2,gZ] at ihr;have g3j:(g.set j (.Qu (rows++[[]]++l.Qu cd (rows.length+1)++r.Qu cd (rows.length+1+(l.Qu cd (rows.length+1)).length))))[j]? =some (.Qu (rows++[[]]++l.Qu cd (rows.length+1)++r.Qu cd (rows.length+1+(l.Qu cd (rows.length+1)).length))):=by simp [hj]
  have VN:(rows++[[]]++l.Qu cd (rows.length+1)++r.Qu cd (rows.length+1+(l.Qu cd (rows.length+1)).length))[rows.length]? =some []:=by rw [bK,bK,aT (by omega),iW];rfl
  have eg:g.set j (.Qu (rows++(BT.node l r).Qu cd rows.length))=(g.set j (.Qu (rows++[[]]++l.Qu cd (rows.length+1)++r.Qu cd (rows.length+1+(l.Qu cd (rows.length+1)).length)))).set j (.Qu ((rows++[[]]++l.Qu cd (rows.length+1)++r.Qu cd (rows.length+1+(l.Qu cd (rows.length+1)).length)).set rows.length ([]++[D.int (l.nm cd (rows.length+1)),D.int (r.nm cd (rows.length+1+(l.Qu cd (rows.length+1)).length))]))):=by rw [gZ,bK,bK,kL,IY];rfl
  rw [eg];have hix:qq (.int (256+(rows.length:Int)-256))=some rows.length:=by rw [show (256+(rows.length:Int)-256)=(rows.length:Int) from by omega];exact f8 rfl (if_pos (az rows.length))
  rw [<-s1,<-s2] at ihl;rw [<-s3,<-s4] at ihr;have hit:=p9 (k:=(cD ((BT.node l r).Q2 lf cd)).length) (by unfold lim;omega);have c0:(((cD ((BT.node l r).Q2 lf cd)).length:Int)==1)=false:=by rw [lB];simp;omega
  have elx:(BT.node l r).size=(cD ((BT.node l r).Q2 lf cd)).length:=by rw [lB,BT.QQ]
  rw [elx] at e3;clear hP hlen TQ ecd epd lA lB xl yl s1 s2 s3 s4 elx;generalize pD ((BT.node l r).Q2 lf cd)=A at *;generalize cD ((BT.node l r).Q2 lf cd)=B at *;rw [show (BT.node l r).nm cd rows.length=256+(rows.length:Int) from rfl];generalize r.Qu cd (rows.length+1+(l.Qu cd (rows.length+1)).length)=R2 at *;generalize r.nm cd (rows.length+1+(l.Qu cd (rows.length+1)).length)=n2 at *;generalize l.Qu cd (rows.length+1)=R1 at *;generalize l.nm cd (rows.length+1)=n1 at *;have hl1:=Co (n:=k+94) (by omega) hg;have e4:=e3 [("name",.int (256+(rows.length:Int))),("pieces",.lst A),("codes",.lst B),("table",.loc j)] rfl rfl;clear e3;apply im (by rfl') Dn (by rfl');symm
  ·refine Mr (ys:=[.int n1,.int n2]) (by rfl') ?_ ?_ hix ?_ g3j rfl VN (by simp [lim]);symm
  symm
theorem No:o8 P1 "_law_heaps" =some ⟨["script"],fsc P1 "_law_heaps",fb P1 "_law_heaps"⟩:=by iterate 0 rfl'
noncomputable def PC:Expr:=D4 (at_ (fb P1 "_law_heaps") 1)
noncomputable def PE:List Stmt:=pW (at_ (fb P1 "_law_heaps") 1)
theorem I9:∀ {m k:Nat} {T:Qm} {zs0 xs:List Int} {g:G} (h1:T.At "script" (.lst (zs0.map D.int))) (h2:T.lookup ("heaps" :Str)=none) (hk:k<zs0.length) (hx:xs.length=4),∃ (T':Qm) (ys:List Int),turnF P1 (m+40) (fsc P1 "_law_heaps") PC PE (.int k) ⟨T,[],some ("heaps",.lst (xs.map D.int))⟩ g=some (⟨T',[],some ("heaps",.lst (ys.map D.int))⟩,g,none)/\ys.length=4/\T'.At "script" (.lst (zs0.map D.int))/\T'.lookup ("heaps" :Str)=none:=by iterate 10
 have e:aQ (k:Int) 4=((k % 4:Nat):Int):=by rw [aU _ (by decide)];rfl
 have hi:qq (.int (aQ (k:Int) 4))=some (k % 4):=by rw [e];exact f8 (show oH (.int ((k % 4:Nat):Int))=some _ from rfl) (if_pos (az _))
 have RJ:k % 4<4:=bR _ (by decide);have ha:(xs.map D.int)[k % 4]? =some (.int (xs.getD (k % 4) 0)):=by simp [au (show k % 4<xs.length by omega)]
 have hs:subD P1 (.lst (zs0.map D.int)) (.int (k:Int))=some (.int (zs0.getD k 0)):=pU (by simp [hk]);refine ⟨("k",.int k)::T,xs.set (k % 4) (xs.getD (k % 4) 0+zs0.getD k 0),?_,by simp [hx],h1,h2⟩;rw [List.map_set];symm
theorem JM:∀ {m:Nat} {zs0:List Int} {g:G},∀ (ks:List Nat) (T:Qm) (xs:List Int),(∀ k∈ks,k<zs0.length)->T.At "script" (.lst (zs0.map D.int))->T.lookup ("heaps" :Str)=none->xs.length=4->
  ∃ (T':Qm) (ys:List Int),iterLoop (turnF P1 (m+40) (fsc P1 "_law_heaps") PC PE) (ks.map fun k:Nat=>D.int k) ⟨T,[],some ("heaps",.lst (xs.map D.int))⟩ g=some (⟨T',[],some ("heaps",.lst (ys.map D.int))⟩,g,none)/\ys.length=4/\T'.At "script" (.lst (zs0.map D.int))/\T'.lookup ("heaps" :Str)=none:=by iterate 3
 intro ks;induction ks with | nil=>intro T xs _ h1 h2 h3;exact ⟨T,xs,rfl,h3,h1,h2⟩ | cons k ks Qj=>intro T xs h h1 h2 h3;obtain ⟨T1,ys,e1,f1,f2,f3⟩:=I9 (m:=m) (g:=g) h1 h2 (h k (by simp)) h3;obtain ⟨T',zs,e2,f4⟩:=Qj T1 ys (fun q hq=>h q (by simp [hq])) f2 f3 f1;refine ⟨T',zs,?_,f4⟩;rw [aB,ol e1];exact e2
theorem JB:∀ {n:Nat} {f:Str} {ds:List D} {g:G} {r r':D} (h:ceCall P1 n f ds g=some (r,g)) (e:r=r'),ceCall P1 n f ds g=some (r',g):=by iterate 8 rw [h,e]
theorem ve:∀ (a:Int),∃ n:Nat,aQ a 1000000000000=n/\n<1000000000000:=by iterate 1 have h:=cy a (show (0:Int)<1000000000000 by decide);have h2:=cV a (show (0:Int)<1000000000000 by decide);exact ⟨(aQ a 1000000000000).toNat,by omega,by omega⟩
theorem G9:∀ {m:Nat} {zs0:List Int} {g:G} (hl:zs0.length<=63),∃ a b c d:Nat,ceCall P1 (m+60) "_law_heaps" [.lst (zs0.map D.int)] g=some (.lst [.int a,.int b,.int c,.int d],g)/\a<1000000000000/\b<1000000000000/\c<1000000000000/\d<1000000000000:=by iterate 4
 obtain ⟨T',ys,e1,f1,f2,f3⟩:=JM (m:=m+15) (zs0:=zs0) (g:=g) (aN zs0.length) [("script",.lst (zs0.map D.int))] [2040,35755,228,940] (fun k hk=>cz.mp hk) rfl rfl rfl;obtain ⟨x,y,z,u,rfl⟩:∃ x y z u,ys=[x,y,z,u]:=by rcases ys with _ | ⟨x,_ | ⟨y,_ | ⟨z,_ | ⟨u,_ | ⟨v,r⟩⟩⟩⟩⟩<;>simp at f1;exact ⟨_,_,_,_,rfl⟩
 obtain ⟨a,ha,ha2⟩:=ve x;obtain ⟨b,hb,hb2⟩:=ve y;obtain ⟨c,hc,VX⟩:=ve z;obtain ⟨d,hd,hd2⟩:=ve u;refine ⟨a,b,c,d,?_,ha2,hb2,VX,hd2⟩;rw [<-ha,<-hb,<-hc,<-hd];have hit:=p9 (k:=(zs0.map D.int).length) (by simp [lim];omega);have ell:(zs0.map D.int).length=zs0.length:=by simp
 rw [<-ell] at e1;clear ha hb hc hd;apply JB
 ·apply im (by rfl') No (by rfl');apply ss_step
  ·run_tac Wk.ceT
  ·apply ss_step
   ·apply s_for
    ·run_tac Wk.ceT
    ·run_tac Wk.ceT
    ·run_tac Wk.ceT
    ·run_tac Wk.ceT
    ·run_tac Wk.ceT
   ·apply ss_step
    ·run_tac Wk.ceT
    ·run_tac Wk.ceT
 ·rfl'
noncomputable def codesN:List Nat:=[9,10,11]++(aN 42).map (· +13)
noncomputable def vK (x:Int):Nat:=codesN.getD (aQ x 45).toNat 9
theorem uP:∀ (x:Int),vK x∈codesN:=by iterate 1
 have h:=cy x (show (0:Int)<45 by decide);have h2:=cV x (show (0:Int)<45 by decide);have h3:(aQ x 45).toNat<codesN.length:=by rw [show codesN.length=45 from rfl];omega
 unfold vK;rw [bl,au h3];exact b5 h3
theorem vF:∀ (x:Int),subD P1 (.lst (codesN.map fun c:Nat=>D.int c)) (.int (aQ x 45))=some (.int (vK x)):=by iterate 1
 have h:=cy x (show (0:Int)<45 by decide);have h2:=cV x (show (0:Int)<45 by decide);have h3:(aQ x 45).toNat<codesN.length:=by rw [show codesN.length=45 from rfl];omega
 obtain ⟨k,hk⟩:∃ k:Nat,aQ x 45=k:=⟨(aQ x 45).toNat,by omega⟩
 have hc:vK x=codesN.getD k 9:=by unfold vK;rw [hk];rfl
 rw [hc,hk];rw [hk] at h3;have h3:k<codesN.length:=h3;refine pU ?_;simp [h3]
theorem NU:o8 P1 "_law_letters" =some ⟨["heap"],fsc P1 "_law_letters",fb P1 "_law_letters"⟩:=by iterate 0 rfl'
theorem Ma:∀ (x:Int),0<=aQ x 14/\aQ x 14<14:=by iterate 1 exact (⟨cy x (by decide),cV x (by decide)⟩)
theorem LI:∀ (y:Int),(1+aQ y 14).natAbs<1099511627776:=by iterate 1 have:=Ma y;omega
theorem GU:∀ {n:Nat} {l:List Int} {g:G} (h:∀ x∈l,x.natAbs<1099511627776),ceCall P1 (n+31) "sum" [.lst (l.map .int)] g=some (.int l.sum,g):=by iterate 4 exact (qH (h:=tC) (by rfl') (by omega) (Bn h))
theorem Ng:∀ {n:Nat} {x:Int} {g:G},ceCall P1 (n+31) "sum" [.lst [.int (1+aQ x 14)]] g=some (.int ([1+aQ x 14]).sum,g):=by iterate 3 exact (GU (l:=[_]) (by simp only [ej];rintro _ rfl;exact LI _))
theorem Ny:∀ {n:Nat} {x y:Int} {g:G},ceCall P1 (n+31) "sum" [.lst [.int (1+aQ x 14),.int (1+aQ y 14)]] g=some (.int ([1+aQ x 14,1+aQ y 14]).sum,g):=by iterate 4 exact (GU (l:=[_,_]) (by simp only [aq,aO,or_false];rintro _ (rfl | rfl)<;>exact LI _))
theorem NG:∀ {n:Nat} {x y z:Int} {g:G},ceCall P1 (n+31) "sum" [.lst [.int (1+aQ x 14),.int (1+aQ y 14),.int (1+aQ z 14)]] g=some (.int ([1+aQ x 14,1+aQ y 14,1+aQ z 14]).sum,g):=by iterate 5 exact (GU (l:=[_,_,_]) (by simp only [aq,aO,or_false];rintro _ (rfl | rfl | rfl)<;>exact LI _))
theorem Cm:∀ {m:Nat} {h:Int} {g:G},∃ a b c d:Nat,ceCall P1 (m+60) "_law_letters" [.int h] g=some (.lst [.int a,.int b,.int c,.int d],g)/\a∈codesN/\b∈codesN/\c∈codesN/\d∈codesN:=by iterate 3
 suffices hw:∃ x y z u:Int,ceCall P1 (m+60) "_law_letters" [.int h] g=some (.lst [.int (vK x),.int (vK y),.int (vK z),.int (vK u)],g) by obtain ⟨x,y,z,u,hw⟩:=hw;exact ⟨_,_,_,_,hw,uP _,uP _,uP _,uP _⟩
 apply eK;apply eK;apply eK;apply eK;apply im (by rfl') NU (by rfl');symm
 ·exact vF _
 symm
 ·exact Ng (n:=m+19)
 symm
 ·exact vF _
 symm
 ·exact Ny (n:=m+19)
 symm
 ·exact vF _
 symm
 ·exact NG (n:=m+19)
 symm
 ·exact vF _
 symm
noncomputable def XG:List (List Nat):=[[40],[41],[91],[93],[58],[44],[59],[43],[45],[42],[47],[124],[38],[60],[62],[61],[46],[37],[123],[125],[61,61],[33,61],[60,61],[62,61],[126],[94],[60,60],[62,62],[42,42],[43,61],[45,61],[42,61],[47,61],[37,61],[38,61],[124,61],[94,61],[60,60,61],[62,62,61],[42,42,61],[47,47],[47,47,61],[64],[64,61],[45,62],[46,46,46],[58,61],[33]]
noncomputable def Uh:List (List Un):=[[],[(true,40)],[(true,41)],[(true,34)],[(false,34),(false,40),(false,35),(false,32),(false,34)],[(false,34),(false,41),(true,34),(false,10),(false,34)],[(true,92)],[(true,44)]]
noncomputable def yq (x:Int):Nat:=(aQ x 8).toNat
noncomputable def nU (n:Nat):List Un:=Uh.getD n []
noncomputable def DF (c:Nat):List Nat:=XG.getD (c-7) []
noncomputable def Nx (c:Nat):List Un:=(DF c).map fun o=>(false,o)
noncomputable def Bl (k n c:Nat):List Un:=if k % 2==0 then nU n++Nx c else Nx c++nU n
theorem BW:∀ (x:Int),yq x<8:=by iterate 1 have h:=cy x (show (0:Int)<8 by decide);have h2:=cV x (show (0:Int)<8 by decide);unfold yq;omega
theorem rF:∀ (x:Int),subD P1 (.lst (Uh.map fun u=> .str (gl u))) (.int (aQ x 8))=some (.str (gl (nU (yq x)))):=by iterate 1
 have h:=cy x (show (0:Int)<8 by decide);have h2:=cV x (show (0:Int)<8 by decide);have h3:yq x<Uh.length:=BW x;have e:aQ x 8=(yq x:Nat):=by unfold yq;omega
 rw [e];refine pU ?_;simp [h3,nU]
theorem sx:∀ {c:Nat} (h:c∈codesN),9<=c/\c<=54/\c≠12:=by iterate 2
 have key:∀ c∈codesN,9<=c/\c<=54/\c≠12:=by decide+kernel
 exact key c h
theorem uB:∀ {c:Nat} (h:c∈codesN),subD P1 (.lst (XG.map .str)) (.int ((c:Int)-7))=some (.str (DF c)):=by iterate 2
 have h1:=sx h;have h3:c-7<XG.length:=by rw [show XG.length=48 from rfl];omega
 have e:(c:Int)-7=((c-7:Nat):Int):=by omega
 rw [e];refine pU ?_;simp [h3,DF]
theorem Bh:∀ (n:Nat),(gl (nU n)).length<=8:=by iterate 1
 by_cases h:n<8
 ·have key:∀ n<8,(gl (nU n)).length<=8:=by decide+kernel
  exact key n h
 ·have:nU n=[]:=by unfold nU;rw [bl,kM (by rw [show Uh.length=8 from rfl];omega)];rfl
  rw [this];simp [gl]
theorem G4:∀ (c:Nat),(DF c).length<=8:=by iterate 1
 by_cases h:c-7<48
 ·have key:∀ n<48,(XG.getD n []).length<=8:=by decide+kernel
  exact key _ h
 ·have:DF c=[]:=by unfold DF;rw [bl,kM (by rw [show XG.length=48 from rfl];omega)];rfl
  rw [this];simp
theorem ED:∀ o:List Nat,gl (o.map fun c=>(false,c))=o:=by iterate 0 intro o;induction o with | nil=>exact rfl | cons c o Qj=>rw [aB,p0,Qj];rfl
theorem FT:∀ (c:Nat),gl (Nx c)=DF c:=by iterate 1 exact (ED _)
theorem zU:∀ (n c:Nat),binop .Add (.str (gl (nU n))) (.str (DF c))=some (.str (gl (nU n++Nx c))):=by iterate 2 rw [qJ,FT];exact tU (by have:=Bh n;have:=G4 c;rw [aw];unfold lim;omega)
theorem Cl:∀ (n c:Nat),binop .Add (.str (DF c)) (.str (gl (nU n)))=some (.str (gl (Nx c++nU n))):=by iterate 2 rw [qJ,FT];exact tU (by have:=Bh n;have:=G4 c;rw [aw];unfold lim;omega)
theorem KK:o8 P1 "_law_leaves" =some ⟨["codes","heap"],fsc P1 "_law_leaves",fb P1 "_law_leaves"⟩:=by iterate 0 rfl'
theorem Jw:∀ {m:Nat} {h:Int} {a b c:Nat} {g:G} (ha:a∈codesN) (hb:b∈codesN) (hc:c∈codesN),ceCall P1 (m+60) "_law_leaves" [.lst [.int a,.int b,.int c],.int h] g=some (.lst [.str (gl (Bl 0 (yq (aL h 1)) a)),.str (gl (Bl 1 (yq (aL h 8)) b)),.str (gl (Bl 2 (yq (aL h 64)) c))],g):=by iterate 9 have n0:=rF (aL h 1);have o0:=uB ha;have s0:=zU (yq (aL h 1)) a;have n1:=rF (aL h 8);have o1:=uB hb;have s1:=Cl (yq (aL h 8)) b;have n2:=rF (aL h 64);have o2:=uB hc;have s2:=zU (yq (aL h 64)) c;apply im (by rfl') KK (by rfl');symm
theorem Jy:∀ {m:Nat} {h:Int} {a b c d:Nat} {g:G} (ha:a∈codesN) (hb:b∈codesN) (hc:c∈codesN) (hd:d∈codesN),ceCall P1 (m+60) "_law_leaves" [.lst [.int a,.int b,.int c,.int d],.int h] g=some (.lst [.str (gl (Bl 0 (yq (aL h 1)) a)),.str (gl (Bl 1 (yq (aL h 8)) b)),.str (gl (Bl 2 (yq (aL h 64)) c)),.str (gl (Bl 3 (yq (aL h 512)) d))],g):=by iterate 11 have n0:=rF (aL h 1);have o0:=uB ha;have s0:=zU (yq (aL h 1)) a;have n1:=rF (aL h 8);have o1:=uB hb;have s1:=Cl (yq (aL h 8)) b;have n2:=rF (aL h 64);have o2:=uB hc;have s2:=zU (yq (aL h 64)) c;have n3:=rF (aL h 512);have o3:=uB hd;have s3:=Cl (yq (aL h 512)) d;apply im (by rfl') KK (by rfl');symm
noncomputable def O5 (u:List Un) (o:List Nat) (c:Int):Bool:=u.all zv&&qY false u&&tw (ga false u)==o&&Sv.lookup o==some c&&decide (1<=o.length/\o.length<=3)&&decide (c≠7/\c≠8/\c≠12)&&decide (40∉o/\41∉o)&&decide ((gl u).length<=20/\u.length<=20)&&decide (o≠[92])&&decide (9∉gl u/\13∉gl u)
theorem LX:([0,1]:List Nat).all (fun k=>(aN 8).all fun n=>codesN.all fun c=>O5 (Bl k n c) (DF c) c)=true:=by iterate 0 decide+kernel
theorem IP:∀ {k n c:Nat} (hn:n<8) (hc:c∈codesN),O5 (Bl k n c) (DF c) c=true:=by iterate 5
 have h:=LX;have e:Bl k n c=Bl (k % 2) n c:=by unfold Bl;rw [Nat.mod_mod]
 rw [e];have h1:=ak.mp h (k % 2) (by have:=bR k (show 0<2 by decide);simp;omega);have h2:=ak.mp h1 n (cz.mpr hn);exact ak.mp h2 c hc
theorem Kt:∀ {k n c:Nat} (hn:n<8) (hc:c∈codesN),Sq (Bl k n c) (DF c) c/\9∉gl (Bl k n c)/\13∉gl (Bl k n c):=by iterate 5 have h:=IP (k:=k) hn hc;simp only [O5,ai,beq_iff_eq,decide_eq_true_eq] at h;obtain ⟨⟨⟨⟨⟨⟨⟨⟨⟨a,b⟩,s⟩,t⟩,l⟩,f⟩,n⟩,k⟩,z⟩,y⟩:=h;exact ⟨⟨a,b,s,t,l,f,n,k,z⟩,y⟩
noncomputable def lm (X w:List Nat):List Nat:=w.flatMap fun c=>if decide (c∈X) then [92,c] else [c]
theorem NB:o8 P1 "_law_spelled" =some ⟨["word","mode"],fsc P1 "_law_spelled",fb P1 "_law_spelled"⟩:=by iterate 0 rfl'
theorem yZ:∀ (X:List Nat),∀ w:List Nat,(lm X w).length<=2 * w.length:=by iterate 1
 intro w;induction w with
 | nil=>simp [lm]
 | cons c w Qj=>
  have h:=Qj;have e:lm X (c::w)=(if decide (c∈X) then [92,c] else [c])++lm X w:=rfl;rw [e,aw,aI];have:(if decide (c∈X) then [92,c] else [c]).length<=2:=by split<;>simp
  omega
theorem ye:∀ (X w:List Nat),(w.map fun c=>if decide (c∈X) then [92,c] else [c]).flatten=lm X w:=by iterate 2 exact (rfl)
noncomputable def Qc:Expr:=NI (yi (at_ (fb P1 "_law_spelled") 1)) [0,1,1]
noncomputable def zx (mo:Nat) (w:List Nat):List Nat:=if mo=0 then [92,34] else if mo=1 then [92,32,10] else w
noncomputable def ym (mo:Nat):List Nat:=if mo=0 then [34] else []
theorem IH:∀ {m mo:Nat} {w:List Nat} {T:Qm} {g:G} (hm:mo<3) (h1:T.At "word" (.str w)) (h2:T.At "mode" (.int mo)),iterLoop (tg (m+50) (fsc P1 "_law_spelled") ⟨T,[],none⟩ Qc) (w.map fun c=> .str [c]) [] g=some ((w.map fun c=>if decide (c∈zx mo w) then [92,c] else [c]).map D.str,g,none):=by iterate 8
 rw [b7];refine qz (F:=fun c=>D.str (if decide (c∈zx mo w) then [92,c] else [c])) fun c hc acc=>?_;unfold tg;have Tc:mo=0\/mo=1\/mo=2:=by omega
 have c1:cmp P1 .In (.str [c]) (.str (zx mo w))=some (decide (c∈zx mo w)):=rfl;have hs:subD P1 (.lst [.str [92,34],.str [92,32,10],.str w]) (.int mo)=some (.str (zx mo w)):=by rcases Tc with rfl | rfl | rfl<;>rfl
 generalize hX:zx mo w=X at *;cases e:decide (c∈X) with | true=>rw [e] at c1;rw [if_pos rfl];symm | false=>rw [e] at c1;rw [if_neg (by decide)];symm
theorem rG:∀ {a b:List Nat} (h:(a++b).length<=lim),binop .Add (.str a) (.str b)=some (.str (a++b)):=by iterate 3 exact (tU h)
theorem Bm:∀ {m mo:Nat} {w:List Nat} {g:G} (hm:mo<3) (hl:w.length<900),ceCall P1 (m+60) "_law_spelled" [.str w,.int mo] g=some (.str (ym mo++lm (zx mo w) w++ym mo),g):=by iterate 6
 have Tc:mo=0\/mo=1\/mo=2:=by omega
 have hs:subD P1 (.lst [.str [34],.str [],.str []]) (.int mo)=some (.str (ym mo)):=by rcases Tc with rfl | rfl | rfl<;>rfl
 have hM:(ym mo).length<=1:=by rcases Tc with rfl | rfl | rfl<;>simp [ym]
 have h2:=yZ (zx mo w) w;have e1:=IH (m:=m+1) (w:=w) (T:=[("mark",.str (ym mo)),("word",.str w),("mode",.int mo)]) (g:=g) hm rfl rfl;have hj:=zz (rs:=w.map fun c=>if decide (c∈zx mo w) then [92,c] else [c]) (g:=g) (by rw [ye];unfold lim;omega);rw [ye] at hj;have hll:((w.map fun c=>if decide (c∈zx mo w) then [92,c] else [c]).map D.str).length<=lim:=by simp [lim];omega
 have a1:=rG (a:=ym mo) (b:=lm (zx mo w) w) (by rw [aw];unfold lim;omega);have a2:=rG (a:=ym mo++lm (zx mo w) w) (b:=ym mo) (by rw [aw,aw];unfold lim;omega);generalize lm (zx mo w) w=S at *;generalize ym mo=M at *;apply im (by rfl') NB (by rfl');symm
noncomputable def nl (w:List Nat):Int:=((w.filter (· ==10)).length:Nat)
theorem qN:∀ (c:Nat) (w:List Nat),nl (c::w)=nl w+(if c=10 then 1 else 0):=by iterate 2 unfold nl;rw [jb];by_cases h:c=10<;>simp [h]
theorem wg:∀ (a b:List Nat),nl (a++b)=nl a+nl b:=by iterate 2 unfold nl;rw [iF,aw];omega
theorem Gh:∀ (c:Nat) (r acc:List Nat) (ln:Int),tz (92::c::r) acc ln=tz r (acc++[c]) (if c=10 then ln+1 else ln):=by iterate 4 dsimp only [tz];simp
theorem Cb:∀ {c:Nat} (h1:c≠34) (h2:c≠92) (r acc:List Nat) (ln:Int),tz (c::r) acc ln=tz r (acc++[c]) (if c=10 then ln+1 else ln):=by iterate 6 rw [vG,if_neg h1,if_neg h2];rfl
theorem Cc:∀ {X:List Nat} (h1:34∈X) (h2:92∈X) (r:List Nat),∀ (w acc:List Nat) (ln:Int),tz (lm X w++34::r) acc ln=(acc++w,r,ln+nl w):=by iterate 4
 intro w;induction w with
 | nil=>intro acc ln;rw [show lm X []=[] from rfl,a9,vG,if_pos rfl,aS,show nl []=0 from rfl,lb];rfl
 | cons c w Qj=>
  intro acc ln;have e:lm X (c::w)=(if decide (c∈X) then [92,c] else [c])++lm X w:=rfl;rw [e,qN];have key:tz ((if decide (c∈X) then [92,c] else [c])++lm X w++34::r) acc ln=tz (lm X w++34::r) (acc++[c]) (if c=10 then ln+1 else ln):=by
   by_cases hc:c∈X
   ·simp only [hc,decide_true,if_true,bc,a9];exact Gh ..
   ·simp only [hc,decide_false,bX,if_false,bc,a9];exact Cb (fun h=>hc (by rw [h];exact h1)) (fun h=>hc (by rw [h];exact h2)) ..
  rw [key,Qj];simp;split<;>omega
theorem GF:∀ (c:Nat) (r acc:List Nat) (ln:Int),sD (92::c::r) acc ln=sD r (acc++[c]) (if c=10 then ln+1 else ln):=by iterate 4 dsimp only [sD];simp [qG]
theorem BE:∀ {c:Nat} (h1:qG c=false) (h2:c≠92) (r acc:List Nat) (ln:Int),sD (c::r) acc ln=sD r (acc++[c]) (if c=10 then ln+1 else ln):=by iterate 6 rw [vE,if_neg (by rw [h1];exact aJ),if_neg h2];rfl
theorem xx:∀ {X:List Nat} {q:Nat} (he:qG q=true) (r:List Nat),∀ (w acc:List Nat) (ln:Int),(∀ c∈w,c∈X\/(qG c=false/\c≠92))->sD (lm X w++q::r) acc ln=(acc++w,r,ln+nl w+(if q=10 then 1 else 0)):=by iterate 4
 intro w;induction w with
 | nil=>intro acc ln _;rw [show lm X []=[] from rfl,a9,vE,if_pos he];simp [nl,oX];split<;>omega
 | cons c w Qj=>
  intro acc ln h;have e:lm X (c::w)=(if decide (c∈X) then [92,c] else [c])++lm X w:=rfl;rw [e,qN];have key:sD ((if decide (c∈X) then [92,c] else [c])++lm X w++q::r) acc ln=sD (lm X w++q::r) (acc++[c]) (if c=10 then ln+1 else ln):=by
   by_cases hc:c∈X
   ·simp only [hc,decide_true,if_true,bc,a9];exact GF ..
   ·simp only [hc,decide_false,bX,if_false,bc,a9];rcases h c (by simp) with h1 | h1
    ·exact absurd h1 hc
    ·exact BE h1.1 h1.2 ..
  rw [key,Qj _ _ fun d hd=>h d (by simp [hd])];simp;split<;>omega
theorem Aa:∀ {c:Nat} (h:qG c=true) (r:List Nat) (ln:Int),tok (c::r) ln=tok r (if c=10 then ln+1 else ln):=by iterate 4 dsimp only [tok];simp [h]
theorem MT:∀ (r:List Nat) (ln:Int),tok (34::r) ln=tz r [] ln:=by iterate 2 dsimp only [tok];simp [qG]
theorem Iy:∀ (c:Nat) (r:List Nat) (ln:Int),tok (92::c::r) ln=sD r [c] (if c=10 then ln+1 else ln):=by iterate 3 dsimp only [tok];simp [qG]
theorem Ml:∀ (r:List Nat) (ln:Int),tok (40::r) ln=sD r [40] ln:=by iterate 2 dsimp only [tok];simp [qG]
noncomputable def qU (mo i:Nat):List Nat:=if mo=0 then [] else [([10,9,13,32]:List Nat).getD i 10]
noncomputable def o9 (mo i:Nat) (w:List Nat):List Nat:=[13,9,32,10]++(ym mo++lm (zx mo w) w++ym mo)++qU mo i++[101,110,100]
theorem E1:∀ (X:List Nat),∀ w:List Nat,nl (lm X w)=nl w:=by iterate 1
 intro w;induction w with
 | nil=>exact rfl
 | cons c w Qj=>
  have e:lm X (c::w)=(if decide (c∈X) then [92,c] else [c])++lm X w:=rfl;rw [e,wg,Qj,qN];have:nl (if decide (c∈X) then [92,c] else [c])=if c=10 then 1 else 0:=by
   by_cases h:c∈X
   ·simp only [h,decide_true,if_true];rw [qN,qN];simp [nl]
   ·simp only [h,decide_false,bX,if_false];rw [qN];simp [nl]
  omega
theorem xH:∀ (r:List Nat),tok (13::9::32::10::r) 1=tok r 2:=by iterate 1 rw [Aa (by decide),Aa (by decide),Aa (by decide),Aa (by decide)];rfl
theorem AB:∀ {mo i:Nat} {w w':List Nat} (hm:mo<3) (hw:w=40::w') (h9:9∉w) (h13:13∉w),tok (o9 mo i w) 1=(w,[101,110,100],1+nl (o9 mo i w)):=by iterate 8
 have Yp:nl (o9 mo i w)=1+nl w+nl (qU mo i):=by
  unfold o9;rw [wg,wg,wg,wg,wg,E1];have h1:nl [13,9,32,10]=1:=by decide
  have h2:nl [101,110,100]=0:=by decide
  have h3:nl (ym mo)=0:=by unfold ym;split<;>decide
  omega
 rw [Yp];have Tc:mo=0\/mo=1\/mo=2:=by omega
 rcases Tc with rfl | rfl | rfl
 ·have e:o9 0 i w=13::9::32::10::34::(lm [92,34] w++34::[101,110,100]):=by simp [o9,ym,zx,qU]
  rw [e,xH,MT,Cc (by simp) (by simp)];simp [qU,nl];omega
 all_goals
  generalize hq:([10,9,13,32]:List Nat).getD i 10=q;have hqw:qG q=true:=by rcases i with _ | _ | _ | _ | i<;>simp at hq<;>subst hq<;>rfl
 ·have e:o9 1 i w=13::9::32::10::(lm [92,32,10] w++q::[101,110,100]):=by simp [o9,ym,zx,qU,<-hq]
  have e2:lm [92,32,10] w=40::lm [92,32,10] w':=by rw [hw];rfl
  rw [e,xH,e2,bc,Ml,xx hqw]
  ·have hg:qU 1 i=[q]:=by simp [qU];simpa using hq
   rw [hg,hw,qN,qN];simp [nl];split<;>omega
  ·intro c hc;by_cases h:c∈([92,32,10]:List Nat)
   ·exact .inl h
   ·refine .inr ?_;simp only [aq,aO,or_false,not_or] at h;have h9:c≠9:=fun e=>h9 (by rw [hw,<-e];simp [hc]);have h13:c≠13:=fun e=>h13 (by rw [hw,<-e];simp [hc]);simp [qG,h,h9,h13]
 ·have e:o9 2 i w=13::9::32::10::(lm w w++q::[101,110,100]):=by simp [o9,ym,zx,qU,<-hq]
  have e2:lm w w=92::40::lm w w':=by have:lm w (40::w')=(if decide (40∈w) then [92,40] else [40])++lm w w':=rfl;rw [<-hw] at this;rw [this,if_pos (by rw [hw];simp)];rfl
  rw [e,xH,e2,bc,bc,Iy,if_neg (by decide),xx hqw]
  ·have hg:qU 2 i=[q]:=by simp [qU];simpa using hq
   rw [hg,hw,qN,qN];simp [nl];split<;>omega
  ·intro c hc;exact .inl (by rw [hw];simp [hc])
set_option genCtorIdx true in
inductive It where
| lf (i:Nat)
| nt (n:Nat)
 deriving DecidableEq
theorem mm7:Nonempty It:=by iterate 0 exact (⟨.lf 0⟩)
noncomputable def It.v (cd:Nat->Int):It->Int
| .lf i=>cd i
| .nt n=>256+n
noncomputable def It.TP:It->Bool
| .lf _=>false
| .nt _=>true
noncomputable abbrev C3:=Int×List It
noncomputable def o6 (cd:Nat->Int) (r:List It):List D:=r.map fun x=> .int (x.v cd)
noncomputable def qD (cd:Nat->Int) (q:C3):D:= .tup [.int q.1,.lst (o6 cd q.2)]
noncomputable def gD (r:List Nat) (ln:Int) (pb:List D) (rows:List (List D)):G:=[.sg r,.lex ln (some 0) pb,.Qu rows]
theorem Nv:o8 P1 "_law_derived" =some ⟨["lexer","table","turns"],fsc P1 "_law_derived",fb P1 "_law_derived"⟩:=by iterate 0 rfl'
noncomputable def Pd:Expr:=D4 (at_ (fb P1 "_law_derived") 2)
noncomputable def Oz:List Stmt:=pW (at_ (fb P1 "_law_derived") 2)
noncomputable def P3:Expr:=yi (at_ Oz 1)
noncomputable def xe (r:List It) (k:Nat):Bool:=match r[k]? with
| some x=>x.TP
| none=>false
theorem CE:∀ {m:Nat} {cd:Nat->Int} {r:List It} {T:Qm} {ws:List D} {g:G} (ahb:∀ i,cd i<256) (h1:T.At "row" (.lst (o6 cd r))),iterLoop (tg (m+50) (fsc P1 "_law_derived") ⟨T,[],some ("words",.lst ws)⟩ P3) ((aN r.length).map fun k:Nat=>D.int k) [] g=some (((aN r.length).filter (xe r)).map fun k:Nat=>D.int k,g,none):=by iterate 8
 refine tD (b:=xe r) (F:=fun k:Nat=>D.int k) ?_;intro k hk acc;have hk:=cz.mp hk;unfold tg;have hs:subD P1 (.lst (o6 cd r)) (.int (k:Int))=some (.int (r[k].v cd)):=pU (by simp [o6,hk]);have hc:=NH (m:=m+27) (x:=r[k].v cd) (g:=g);simp only [aK,aM] at hc;have hb:xe r k=decide (256<=r[k].v cd):=by unfold xe;rw [au hk];cases r[k] with | lf i=>have:=ahb i;show false=decide (256<=cd i);rw [decide_eq_false (by omega)] | nt n=>show true=decide (256<=256+(n:Int));rw [decide_eq_true (by omega)]
 rw [hb];generalize decide (256<=r[k].v cd)=b at hc;cases b with | true=>rw [if_pos rfl];symm | false=>rw [if_neg (by decide)];symm
theorem EL:∀ {r:List It} (h:∀ x∈r,x.TP=false),(aN r.length).filter (xe r)=[]:=by iterate 2 rw [gQ];intro k hk;have hk:=cz.mp hk;unfold xe;rw [au hk];simp [h _ (b5 hk)]
theorem DI:∀ {pre post:List It} {n:Nat} (h:∀ x∈pre,x.TP=false),∃ tl,(aN (pre++ .nt n::post).length).filter (xe (pre++ .nt n::post))=pre.length::tl:=by iterate 4
 have e:aN (pre++ .nt n::post).length=aN pre.length++(pre.length::(aN post.length).map fun k=>pre.length+1+k):=by rw [aw,aI,List.range_add,gO];simp only [aB,b7];congr 2;refine cN fun k _=>?_;simp only [dC];omega
 rw [e,iF,jb];have h1:(aN pre.length).filter (xe (pre++ .nt n::post))=[]:=by rw [gQ];intro k hk;have hk:=cz.mp hk;unfold xe;rw [bg hk,au hk];simp [h _ (b5 hk)]
 have h2:xe (pre++ .nt n::post) pre.length=true:=by unfold xe;rw [aT (by omega),iW];rfl
 rw [h1,h2,if_pos rfl];exact ⟨_,rfl⟩
theorem Dg:∀ {a b:List D} (h:(a++b).length<=lim),binop .Add (.lst a) (.lst b)=some (.lst (a++b)):=by iterate 3
 have:binop .Add (.lst a) (.lst b)=Ei (a++b):=by rfl'
 rw [this,Ei,if_pos h]
structure X0 (T:Qm):Prop where
 l:T.At "lexer" (.loc 1)
 t:T.At "table" (.loc 2)
 w:T.lookup ("words" :Str)=none
theorem JZ:∀ {t:List Nat} {ln:Int} {d:D} {pb:List D} {rows:List (List D)},methD "get_token" (.loc 1) [] (gD t ln (d::pb) rows)=some (d,gD t ln pb rows):=by iterate 5 exact (Hl (g:=gD t ln (d::pb) rows) (j:=1) rfl)
theorem Cs:∀ {t:List Nat} {ln:Int} {d:D} {pb:List D} {rows:List (List D)} (h:pb.length<lim),methD "push_token" (.loc 1) [d] (gD t ln pb rows)=some (.none,gD t ln (pb++[d]) rows):=by iterate 6 exact (Cn (g:=gD t ln pb rows) (j:=1) rfl h)
theorem En:∀ {p:bY} {sc:aX} {st:St} {y:Str} {yp pos:Pos} {i:Expr} {l:Nat} (hk:mt y=true) (h:nameD p sc st y=some (.loc l)),qk p sc st (.Subscript (.Name y yp) i pos)=some (l,i):=by iterate 10 refine f8 (show ze _=some (_,i) from rfl) (f8 (show qE _=some y from rfl) ?_);rw [if_pos hk];exact f8 h (f8 (show xV _=some l from rfl) rfl)
theorem HY:∀ {m:Nat} {cd:Nat->Int} {s:Int} {r:List It} {T:Qm} {ws pb:List D} {t:List Nat} {ln k:Int} {rows:List (List D)} (ahb:∀ i,cd i<256) (hT:X0 T) (hr:∀ x∈r,x.TP=false) (hw:ws.length<900) (Va:r.length<900),∃ T',turnF P1 (m+60) (fsc P1 "_law_derived") Pd Oz (.int k) ⟨T,[],some ("words",.lst ws)⟩ (gD t ln (qD cd (s,r)::pb) rows)=some (⟨T',[],some ("words",.lst (ws++[qD cd (s,r)]))⟩,gD t ln pb rows,none)/\X0 T':=by iterate 16
 have h1:=hT.l;have h2:=hT.t;have h3:=hT.w;have hg:=JZ (t:=t) (ln:=ln) (d:=qD cd (s,r)) (pb:=pb) (rows:=rows);have hl:(o6 cd r).length=r.length:=by simp [o6]
 have hit:=p9 (k:=(o6 cd r).length) (by rw [hl];unfold lim;omega);have e1:=fun T' h=>CE (m:=m+6) ahb (r:=r) (T:=T') (ws:=ws) (g:=gD t ln pb rows) h;rw [EL hr,<-hl] at e1;have e2:=e1 (("row",.lst (o6 cd r))::("sign",.int s)::("turn",.int k)::T) rfl;have ha:∀ d,ownMeth "append" ws [d]=some (ws++[d]):=fun d=>rC (by unfold lim;omega);clear e1;refine ⟨("places",.lst [])::("row",.lst (o6 cd r))::("sign",.int s)::("turn",.int k)::T,?_,⟨h1,h2,h3⟩⟩;symm
 ·exact ha _
 symm
theorem JS:∀ {m n:Nat} {cd:Nat->Int} {s:Int} {pre post:List It} {a b:It} {T:Qm} {ws pb:List D} {t:List Nat} {ln k:Int} {rows:List (List D)} (ahb:∀ i,cd i<256) (hT:X0 T) (hr:∀ x∈pre,x.TP=false) (Va:(pre++ .nt n::post).length<900) (hpb:pb.length<900) (VN:rows[n]? =some [.int (a.v cd),.int (b.v cd)]),∃ T',turnF P1 (m+60) (fsc P1 "_law_derived") Pd Oz (.int k) ⟨T,[],some ("words",.lst ws)⟩ (gD t ln (qD cd (s,pre++ .nt n::post)::pb) rows)=some (⟨T',[],some ("words",.lst ws)⟩,gD t ln (pb++[qD cd (s,pre++a::b::post)]++[qD cd (-s,pre++b::a::post)]) rows,none)/\X0 T':=by iterate 21
 have h1:=hT.l;have h2:=hT.t;have h3:=hT.w;have hg:=JZ (t:=t) (ln:=ln) (d:=qD cd (s,pre++ .nt n::post)) (pb:=pb) (rows:=rows);have hl:(o6 cd (pre++ .nt n::post)).length=(pre++ .nt n::post).length:=by simp [o6]
 have hit:=p9 (k:=(o6 cd (pre++ .nt n::post)).length) (by rw [hl];unfold lim;omega);have e1:=fun T' h=>CE (m:=m+6) ahb (r:=pre++ .nt n::post) (T:=T') (ws:=ws) (g:=gD t ln pb rows) h;obtain ⟨tl,VL⟩:=DI (post:=post) (n:=n) hr;have aew:((pre.length::tl).map fun k:Nat=>D.int k).length<=lim:=by rw [aG,<-VL];refine bw (dH _ _) ?_;rw [lV];unfold lim;omega
 rw [VL,<-hl] at e1;have e2:=e1 (("row",.lst (o6 cd (pre++ .nt n::post)))::("sign",.int s)::("turn",.int k)::T) rfl;have hs:subD P1 (.lst (o6 cd (pre++ .nt n::post))) (.int (pre.length:Int))=some (.int (256+(n:Int))):=pU (by simp [o6,show ∀ k,It.v cd (.nt k)=256+k from fun _=>rfl]);have hix:qq (.int (256+(n:Int)-256))=some n:=by rw [show (256+(n:Int)-256)=(n:Int) from by omega];simp [qq,oH]
 have s1:slice (o6 cd (pre++ .nt n::post)) none (some (pre.length:Int))=o6 cd pre:=by rw [uX];simp [o6]
 have s2:slice (o6 cd (pre++ .nt n::post)) (some ((pre.length:Int)+1)) none=o6 cd post:=by rw [show (pre.length:Int)+1=((pre.length+1:Nat):Int) from rfl,xy (by simp [o6])];rw [show o6 cd (pre++ .nt n::post)=(o6 cd pre++[.int (256+(n:Int))])++o6 cd post from by simp [o6,show ∀ k,It.v cd (.nt k)=256+k from fun _=>rfl]];rw [eT (by simp [o6]),gR (by simp [o6]),a9]
 have q1:qD cd (s,pre++a::b::post)= .tup [.int s,.lst (slice (o6 cd (pre++ .nt n::post)) none (some (pre.length:Int))++[.int (a.v cd),.int (b.v cd)]++slice (o6 cd (pre++ .nt n::post)) (some ((pre.length:Int)+1)) none)]:=by rw [s1,s2];simp [qD,o6]
 have q2:qD cd (-s,pre++b::a::post)= .tup [.int (-s),.lst (slice (o6 cd (pre++ .nt n::post)) none (some (pre.length:Int))++[.int (b.v cd),.int (a.v cd)]++slice (o6 cd (pre++ .nt n::post)) (some ((pre.length:Int)+1)) none)]:=by rw [s1,s2];simp [qD,o6]
 have a1:∀ x y:D,binop .Add (.lst (slice (o6 cd (pre++ .nt n::post)) none (some (pre.length:Int)))) (.lst [x,y])=some (.lst (slice (o6 cd (pre++ .nt n::post)) none (some (pre.length:Int))++[x,y])):=fun x y=>Dg (by rw [s1];simp at Va;simp [o6,lim];omega);have a2:∀ x y:D,binop .Add (.lst (slice (o6 cd (pre++ .nt n::post)) none (some (pre.length:Int))++[x,y])) (.lst (slice (o6 cd (pre++ .nt n::post)) (some ((pre.length:Int)+1)) none))=some (.lst (slice (o6 cd (pre++ .nt n::post)) none (some (pre.length:Int))++[x,y]++slice (o6 cd (pre++ .nt n::post)) (some ((pre.length:Int)+1)) none)):=fun x y=>Dg (by rw [s1,s2];simp at Va;simp [o6,lim];omega);have p1:∀ d,methD "push_token" (.loc 1) [d] (gD t ln pb rows)=some (.none,gD t ln (pb++[d]) rows):=fun d=>Cs (by unfold lim;omega);have p2:∀ d d2,methD "push_token" (.loc 1) [d2] (gD t ln (pb++[d]) rows)=some (.none,gD t ln (pb++[d]++[d2]) rows):=fun d d2=>Cs (by simp [lim];omega);have a11:=a1 (.int (a.v cd)) (.int (b.v cd));have a12:=a1 (.int (b.v cd)) (.int (a.v cd));have a21:=a2 (.int (a.v cd)) (.int (b.v cd));have a22:=a2 (.int (b.v cd)) (.int (a.v cd));rw [q1,q2];clear e1 s1 s2 q1 q2 hl VL a1 a2;refine ⟨("right",.int (b.v cd))::("left",.int (a.v cd))::("k",.int (pre.length:Int))::("places",.lst ((pre.length::tl).map fun k:Nat=>D.int k))::("row",.lst (o6 cd (pre++ .nt n::post)))::("sign",.int s)::("turn",.int k)::T,?_,⟨h1,h2,h3⟩⟩;symm
 ·refine En (l:=2) (by rfl') ?_;symm
 symm
 ·exact p1 _
 symm
 ·exact p2 _ _
 symm;rfl'
noncomputable def AU:List It->Option (List It×Nat×List It)
| []=>none
| .lf i::r=>(AU r).map fun p=>(.lf i::p.1,p.2)
| .nt n::r=>some ([],n,r)
noncomputable def KC (tb:List (It×It)) (Q W:List C3):Option (List C3×List C3):=match Q with
| []=>none
| q::Q=>if q.2.length<100/\W.length<100/\Q.length<100 then (match AU q.2 with
  | none=>some (Q,W++[q])
  | some (pre,n,post)=>(tb[n]?).map fun p=>(Q++[(q.1,pre++p.1::p.2::post)]++[(-q.1,pre++p.2::p.1::post)],W)) else none
noncomputable def GD (tb:List (It×It)):Nat->List C3->List C3->Option (List C3×List C3)
| 0,Q,W=>some (Q,W)
| k+1,Q,W=>(KC tb Q W).bind fun x=>GD tb k x.1 x.2
theorem E2:∀ {r:List It},AU r=none->∀ x∈r,x.TP=false:=by iterate 0
 intro r;induction r with
 | nil=>exact fun _ x hx=>nomatch hx
 | cons i r Qj=>
  intro h x hx;cases i with
  | lf i=>
   replace h:=Option.map_eq_none_iff.mp h;rcases aq.mp hx with rfl | hx
   ·rfl
   ·exact Qj h x hx
  | nt n=>cases h
theorem FP:∀ {r pre post:List It} {n:Nat},AU r=some (pre,n,post)->r=pre++ .nt n::post/\∀ x∈pre,x.TP=false:=by iterate 0
 intro r;induction r with
 | nil=>intro _ _ _ h;cases h
 | cons i r Qj=>
  intro pre post n h;cases i with
  | lf i=>
   obtain ⟨⟨p,q,s⟩,h1,h2⟩:=ba.mp h;simp only [cR] at h2;obtain ⟨rfl,rfl,rfl⟩:=h2;obtain ⟨e,f⟩:=Qj h1;refine ⟨by rw [e];rfl,fun x hx=>?_⟩;rcases aq.mp hx with rfl | hx
   ·rfl
   ·exact f x hx
  | nt m=>cases h;exact ⟨rfl,fun x hx=>by cases hx⟩
noncomputable def sF (cd:Nat->Int) (tb:List (It×It)):List (List D):=tb.map fun p=>[.int (p.1.v cd),.int (p.2.v cd)]
theorem IX:∀ {m:Nat} {cd:Nat->Int} {tb:List (It×It)} {t:List Nat} {ln:Int} (ahb:∀ i,cd i<256),∀ (ks:List Int) (T:Qm) (Q W Q' W':List C3),X0 T->GD tb ks.length Q W=some (Q',W')->
  ∃ T',iterLoop (turnF P1 (m+60) (fsc P1 "_law_derived") Pd Oz) (ks.map D.int) ⟨T,[],some ("words",.lst (W.map (qD cd)))⟩ (gD t ln (Q.map (qD cd)) (sF cd tb))=some (⟨T',[],some ("words",.lst (W'.map (qD cd)))⟩,gD t ln (Q'.map (qD cd)) (sF cd tb),none)/\X0 T':=by iterate 6
 intro ks;induction ks with
 | nil=>intro T Q W Q' W' hT h;cases h;exact ⟨T,rfl,hT⟩
 | cons k ks Qj=>
  intro T Q W Q' W' hT h;replace h:(KC tb Q W).bind _=some (Q',W'):=h;obtain ⟨⟨Q1,W1⟩,h1,h2⟩:=gj.mp h;cases Q with
  | nil=>cases h1
  | cons q Q=>
   by_cases hlen:q.2.length<100/\W.length<100/\Q.length<100;case neg=>replace h1:(if q.2.length<100/\W.length<100/\Q.length<100 then _ else none)=some (Q1,W1):=h1;rw [if_neg hlen] at h1;cases h1
   case pos=>
    replace h1:(if q.2.length<100/\W.length<100/\Q.length<100 then _ else none)=some (Q1,W1):=h1;rw [if_pos hlen] at h1;obtain ⟨l1,l2,l3⟩:=hlen;cases ec:AU q.2 with
    | none=>rw [ec] at h1;simp only [fi,cR] at h1;obtain ⟨rfl,rfl⟩:=h1;obtain ⟨T1,e1,Vr⟩:=HY (m:=m) (s:=q.1) (r:=q.2) (ws:=W.map (qD cd)) (pb:=Q.map (qD cd)) (t:=t) (ln:=ln) (k:=k) (rows:=sF cd tb) ahb hT (E2 ec) (by simp;omega) (by omega);obtain ⟨T',e2,VZ⟩:=Qj T1 Q (W++[q]) Q' W' Vr h2;refine ⟨T',?_,VZ⟩;rw [aB,aB,ol e1];rw [dG] at e2;exact e2
    | some x=>
     obtain ⟨pre,n,post⟩:=x;rw [ec] at h1;dsimp only at h1;obtain ⟨⟨a,b⟩,h3,h4⟩:=ba.mp h1;simp only [cR] at h4;obtain ⟨rfl,rfl⟩:=h4;obtain ⟨e,WU⟩:=FP ec;have VN:(sF cd tb)[n]? =some [.int (a.v cd),.int (b.v cd)]:=by unfold sF;rw [b8,h3];rfl
     obtain ⟨T1,e1,Vr⟩:=JS (m:=m) (n:=n) (s:=q.1) (ws:=W.map (qD cd)) (pb:=Q.map (qD cd)) (t:=t) (ln:=ln) (k:=k) (rows:=sF cd tb) (post:=post) ahb hT WU (by rw [<-e];omega) (by simp;omega) VN;obtain ⟨T',e2,VZ⟩:=Qj T1 _ W Q' W' Vr h2;refine ⟨T',?_,VZ⟩;rw [<-e] at e1;rw [aB,aB,show qD cd q=qD cd (q.1,q.2) from rfl,ol e1];rw [dG,dG] at e2;exact e2
theorem CS:∀ {m n:Nat} {cd:Nat->Int} {tb:List (It×It)} {t:List Nat} {ln:Int} {W:List C3} (ahb:∀ i,cd i<256) (hn:n<100) (h:GD tb n [(1,[.nt 0])] []=some ([],W)),ceCall P1 (m+80) "_law_derived" [.loc 1,.loc 2,.int n] (gD t ln [] (sF cd tb))=some (.lst (W.map (qD cd)),gD t ln [] (sF cd tb)):=by iterate 10
 have hlen:((aN n).map fun k:Nat=>(k:Int)).length=n:=by simp
 obtain ⟨T',e1,hT⟩:=IX (m:=m+14) ahb (t:=t) (ln:=ln) ((aN n).map fun k:Nat=>(k:Int)) [("lexer",.loc 1),("table",.loc 2),("turns",.int n)] [(1,[.nt 0])] [] [] W ⟨rfl,rfl,rfl⟩ (by rw [hlen];exact h);rw [b7] at e1;have hit:=p9 (k:=n) (by unfold lim;omega);have hp:methD "push_token" (.loc 1) [.tup [.int 1,.lst [.int 256]]] (gD t ln [] (sF cd tb))=some (.none,gD t ln [qD cd (1,[.nt 0])] (sF cd tb)):=Cs (pb:=[]) (by decide);apply im (by rfl') Nv (by rfl');symm
theorem ui:∀ {f:D->D->Option Bool} {a b:D} {as bs:List D} (h:f a b=some true) (k:wP f as bs=some true),wP f (a::as) (b::bs)=some true:=by iterate 7 exact (f8 (show u0 _=some (b,bs) from rfl) (f8 h (f8 k rfl)))
theorem Df:∀ (k:Nat) (x:Int),rj (k+1) (.int x) (.int x)=some true:=by iterate 2 show (oH (.int x)).bind (fun b=>some (x==b))=_;exact f8 (a:=x) rfl (by rw [beq_self_eq_true])
theorem AE:∀ {k:Nat} {l:List D} (h:wP (rj k) l l=some true),rj (k+1) (.lst l) (.lst l)=some true:=by iterate 3 show (tj (.lst l)).bind (fun b=>if l.length=b.length then wP (rj k) l b else some false)=_;exact f8 (a:=l) rfl ((if_pos rfl).trans h)
theorem Hb:∀ (k:Nat) (l:List Int),wP (rj (k+1)) (l.map D.int) (l.map D.int)=some true:=by iterate 2 induction l with | nil=>rfl | cons x l h=>exact ui (Df k x) h
theorem CY:∀ (k:Nat) (l:List Int),rj (k+2) (.lst (l.map D.int)) (.lst (l.map D.int))=some true:=by iterate 2 exact (AE (Hb k l))
theorem Gf:∀ (cd:Nat->Int) (r:List It),o6 cd r=(r.map fun x=>x.v cd).map D.int:=by iterate 2 simp [o6]
theorem Ja:∀ (k:Nat) (cd:Nat->Int) (q:C3),rj (k+3) (qD cd q) (qD cd q)=some true:=by iterate 3
 rw [qD,Gf];have e:∀ x y:D,rj (k+2) x x=some true->rj (k+2) y y=some true->rj (k+3) (.tup [x,y]) (.tup [x,y])=some true:=fun x y h1 h2=>by show (Dq (.tup [x,y])).bind (fun b=>if [x,y].length=b.length then wP (rj (k+2)) [x,y] b else none)=_;exact f8 (a:=[x,y]) rfl ((if_pos rfl).trans (ui h1 (ui h2 rfl)))
 exact e _ _ (Df (k+1) _) (CY k _)
theorem Hi:∀ (k:Nat) (cd:Nat->Int) (W:List C3),wP (rj (k+3)) (W.map (qD cd)) (W.map (qD cd))=some true:=by iterate 3 induction W with | nil=>rfl | cons q W h=>exact ui (Ja k cd q) h
theorem Kk:∀ {a b:D} (h:rj 6 a b=some true),(rj 6 a b).map (!·)=some false:=by iterate 3 rw [h];rfl
theorem CD:∀ (l:List Int),cmp P1 .NotEq (.lst (l.map D.int)) (.lst (l.map D.int))=some false:=by iterate 1
 have:cmp P1 .NotEq (.lst (l.map D.int)) (.lst (l.map D.int))=(rj 6 (.lst (l.map D.int)) (.lst (l.map D.int))).map (!·):=by rfl'
 rw [this];exact Kk (CY 4 l)
theorem Jx:∀ (cd:Nat->Int) (W:List C3),cmp P1 .NotEq (.lst (W.map (qD cd))) (.lst (W.map (qD cd)))=some false:=by iterate 2
 have:cmp P1 .NotEq (.lst (W.map (qD cd))) (.lst (W.map (qD cd)))=(rj 6 (.lst (W.map (qD cd))) (.lst (W.map (qD cd)))).map (!·):=by rfl'
 rw [this];exact Kk (AE (Hi 2 cd W))
theorem J2:∀ {L:Nat} {kv:KV} (hk:KL L kv) (hn:(kv.map (·.1)).Nodup),cmp P1 .NotEq (.QC (kt kv)) (.QC (kt kv))=some false:=by iterate 4
 have:cmp P1 .NotEq (.QC (kt kv)) (.QC (kt kv))=some (!t5 (kt kv) (kt kv)):=by rfl'
 rw [this];have:t5 (kt kv) (kt kv)=true:=by unfold t5;rw [ai];refine ⟨by simp,ak.mpr fun p hp=>?_⟩;obtain ⟨q,hq,rfl⟩:=aH.mp hp;rw [pt (hk q hq) hk,rP hn hq];simp
 rw [this];rfl
theorem OE:(SM.all fun t=>t.words.all fun w=>w.2.length==3&&w.2.all fun i=>decide (i<3))=true:=by iterate 0 decide+kernel
theorem O9:(SK.all fun t=>t.words.all fun w=>w.2.length==4&&w.2.all fun i=>decide (i<4))=true:=by iterate 0 decide+kernel
theorem FI:(SM.all fun t=>t.words.length==4&&decide (t.size<=30)&&decide (t.dep<=3))=true:=by iterate 0 decide+kernel
theorem HA:(SK.all fun t=>t.words.length==8&&decide (t.size<=30)&&decide (t.dep<=3))=true:=by iterate 0 decide+kernel
theorem Oh:∀ {t:BT} {p:List Nat} {f:Nat->Nat} (h:∀ w∈t.words,∀ i∈w.2,i<p.length),oL t (p.map f)=DR f (oL t p):=by iterate 4 unfold oL DR;rw [b7];refine cN fun w hw=>?_;simp only [dC,b7,cR,true_and];refine cN fun i hi=>?_;have:=h w hw i hi;simp [this]
structure Fin (t:BT) (cs:List Nat):Prop where
 led:∀ x∈cs,xm (qb t cs) cs x=true
 bnd:∀ p∈qb t cs, -1000<=p.2/\p.2<=1000
 lay:∀ w∈oL t cs,∀ j<cs.length-1,tX (qb t cs) (w.2.take (j+1)) (w.2.drop (j+1))=0
theorem Ht:∀ {t:BT} {cs:List Nat} (hc:∀ x∈cs,x∈codesN) (hi:∀ w∈t.words,∀ i∈w.2,i<cs.length) (hp:Ot t (pO cs)=true),Fin t cs:=by iterate 5
 have hf:=CJ (cs:=cs) fun x hx=>by have:=sx (hc x hx);omega
 have e:=CA cs;have hl:(pO cs).length=cs.length:=by simp [pO]
 have ew:oL t cs=DR (Ef cs) (oL t (pO cs)):=by have:=Oh (t:=t) (p:=pO cs) (f:=Ef cs) (by rw [hl];exact hi);rw [e] at this;exact this
 have ek:qb t cs=rn (Ef cs) (qb t (pO cs)):=by unfold qb;rw [ew,show ([]:KV)=rn (Ef cs) [] from rfl,Cy hf];rfl
 unfold Ot at hp;simp only [ai] at hp;obtain ⟨⟨h1,h2⟩,h3⟩:=hp;refine ⟨fun x hx=>?_,fun p hpp=>?_,fun w hw j hj=>?_⟩
 ·rw [ek];have hx2:x∈(pO cs).map (Ef cs):=by rw [e];exact hx
  obtain ⟨y,hy,rfl⟩:=aH.mp hx2;have:=HC hf (qb t (pO cs)) (pO cs) y;rw [e] at this;rw [this];exact ak.mp h1 y hy
 ·rw [ek] at hpp;obtain ⟨q,hq,rfl⟩:=aH.mp hpp;have:=ak.mp h2 q hq;simpa using this
 ·rw [ew] at hw;obtain ⟨v,hv,rfl⟩:=aH.mp hw;have:=ak.mp (ak.mp h3 v hv) j (cz.mpr (by rw [hl];exact hj));rw [ek];dsimp only;rw [<-kn,<-ng,I5 hf];simpa using this
theorem Fy:∀ {cs:List Nat} (hc:∀ x∈cs,x∈codesN),∀ x∈cs,0<x/\x<64:=by iterate 2 exact (fun x hx=>by have:=sx (hc x hx);omega)
theorem Kn:∀ {t:BT} {cs:List Nat} {L:Nat} (hc:∀ x∈cs,x∈codesN) (hi:∀ w∈t.words,w.2.length=L/\∀ i∈w.2,i<cs.length),∀ w∈oL t cs,Lt L w.2:=by iterate 5
 exact (fun w hw=>by
 obtain ⟨v,hv,rfl⟩:=aH.mp hw;refine ⟨by simpa using (hi v hv).1,fun x hx=>?_⟩;obtain ⟨i,hii,rfl⟩:=aH.mp hx;have h:=(hi v hv).2 i hii;refine Fy hc _ ?_;rw [bl,au h];exact b5 h)
theorem Fh:∀ {L:Nat} {r:List Nat} (h:Lt L r) (hL:L=3\/L=4),(yw r).length<=8:=by iterate 4
 have hl:=h.1;rcases hL with rfl | rfl
 ·obtain ⟨a,b,c,rfl⟩:=JW hl;exact kW rfl
 ·obtain ⟨a,r,rfl⟩:=bT hl;obtain ⟨b,c,d,rfl⟩:=JW (cJ hl);exact kW rfl
theorem Ca:∀ {u:List Un} {o:List Nat} {c:Int} (h:Sq u o c),tq 0 (ga false (u++[(false,41)]))=false/\tq 0 (ga false (u++[(false,41),(false,40)]))=false/\qY false (u++[(false,41)])=true/\qY false (u++[(false,41),(false,40)])=true/\(u++[(false,41)]).all zv=true/\(u++[(false,41),(false,40)]).all zv=true:=by iterate 4
 have e1:=qF (V:=[(false,41)]) u false h.b;have e2:=qF (V:=[(false,41),(false,40)]) u false h.b;have hn:=h.n;rw [<-h.s] at hn;have s2:ga false [(false,41),(false,40)]=[(false,41),(false,40)]:=by rw [pE (by decide),pE (by decide)];rfl
 have b2:qY false [(false,41),(false,40)]=true:=by rw [uC (by decide),uC (by decide)];rfl
 refine ⟨?_,?_,?_,?_,?_,?_⟩
 ·rw [e1.1,zG (by decide),sW _ _ _ hn.1 hn.2];rfl
 ·rw [e2.1,s2,sW _ _ _ hn.1 hn.2];rfl
 ·rw [e1.2];exact Im (by decide)
 ·rw [e2.2];exact b2
 ·rw [jC,h.w];rfl
 ·rw [jC,h.w];rfl
noncomputable def BT.it:BT->Nat->It
| .leaf i,_=> .lf i
| .node _ _,n=> .nt n
noncomputable def BT.UQ:BT->Nat->List (It×It)
| .leaf _,_=>[]
| .node l r,n=>(l.it (n+1),r.it (n+1+(l.UQ (n+1)).length))::(l.UQ (n+1)++r.UQ (n+1+(l.UQ (n+1)).length))
noncomputable def BT.wI (t:BT):List C3:=t.words.map fun w=>(w.1,w.2.map .lf)
theorem OH:∀ t∈SM,GD (t.UQ 0) 7 [(1,[.nt 0])] []=some ([],t.wI):=by iterate 0 exact (sJ ⟨by decide+kernel,by decide+kernel⟩)
theorem OU:∀ t∈SK,GD (t.UQ 0) 15 [(1,[.nt 0])] []=some ([],t.wI):=by iterate 0 exact (sN ⟨by decide+kernel,by decide+kernel,by decide+kernel,by decide+kernel,by decide+kernel⟩)
theorem Kr:∀ (cd:Nat->Int),∀ (t:BT) (n:Nat),t.Qu cd n=sF cd (t.UQ n)/\(t.nm cd n=(t.it n).v cd):=by iterate 1
 intro t;induction t with
 | leaf i=>intro n;exact ⟨rfl,rfl⟩
 | node l r Tt Ts=>
  intro n;have h1:=Tt (n+1);have h2:=fun k=>Ts k;have hl:(l.Qu cd (n+1)).length=(l.UQ (n+1)).length:=by rw [h1.1];simp [sF]
  refine ⟨?_,rfl⟩;(dsimp only [BT.Qu];dsimp only [BT.UQ];rw [hl,h1.1,(h2 _).1,h1.2,(h2 _).2]);simp [sF]
noncomputable def rI (i:Nat):Stmt:=at_ (fb P1 "law") i
noncomputable abbrev lwC:aX:=fsc P1 "law"
noncomputable abbrev o7 (i m:Nat) (T:Qm) (g:G) (x:Str) (d:D) (g':G):Prop:=ceS P1 (m+250) lwC ⟨T,[],none⟩ (rI i) g=some (.next,⟨(x,d)::T,[],none⟩,g')
theorem Ab:∀ {i m:Nat} {T:Qm} {g g1 g2:G} {x:Str} {d d':D} (h:ceS P1 (m+250) lwC ⟨T,[],none⟩ (rI i) g=some (.next,⟨(x,d)::T,[],none⟩,g1)) (hd:d=d') (hg:g1=g2),o7 i m T g x d' g2:=by iterate 12 subst hd;subst hg;exact h
theorem Pz:∀ {m:Nat} {T:Qm} {zs:List Int} {g:G} (h:T.At "script" (.lst (zs.map D.int))) (hl:zs.length<=63),∃ a b c d:Nat,o7 0 m T g "heaps" (.lst [.int a,.int b,.int c,.int d]) g/\a<1000000000000:=by iterate 6 obtain ⟨a,b,c,d,e,h1,_⟩:=G9 (m:=m+188) (g:=g) hl;simp only [aK,aM] at e;refine ⟨a,b,c,d,?_,h1⟩;unfold o7;symm
theorem Pk:∀ (n:Nat),aQ (aL (n:Int) 2) 2=((n / 2 % 2:Nat):Int):=by iterate 1 rw [aV _ (by decide),aU _ (by decide)];rfl
theorem Pv:∀ {m:Nat} {T:Qm} {zs:List Int} {g:G} (h:T.At "script" (.lst (zs.map D.int))),o7 1 m T g "count" (.int (3+((zs.length / 2 % 2:Nat):Int))) g:=by iterate 5
 rw [<-Pk];have e:zs.length=(zs.map D.int).length:=by simp
 rw [e];unfold o7;symm
theorem Py:∀ {m:Nat} {T:Qm} {a b c d:Nat} {g:G} (h:T.At "heaps" (.lst [.int a,.int b,.int c,.int d])),∃ p q r s:Nat,o7 2 m T g "letters" (.lst [.int p,.int q,.int r,.int s]) g/\p∈codesN/\q∈codesN/\r∈codesN/\s∈codesN:=by iterate 8 obtain ⟨p,q,r,s,e,h1⟩:=Cm (m:=m+188) (h:=(b:Int)) (g:=g);simp only [aK,aM] at e;refine ⟨p,q,r,s,?_,h1⟩;unfold o7;symm
noncomputable def tI (L:List Nat) (x:Int):Nat:=L.getD (aQ x 4).toNat 9
theorem KM:∀ (x:Int),∃ k:Nat,aQ x 4=k/\k<4:=by iterate 1 have h:=cy x (show (0:Int)<4 by decide);have h2:=cV x (show (0:Int)<4 by decide);exact ⟨(aQ x 4).toNat,by omega,by omega⟩
theorem rD:∀ (p q r s:Nat) (x:Int),subD P1 (.lst [.int p,.int q,.int r,.int s]) (.int (aQ x 4))=some (.int (tI [p,q,r,s] x)):=by iterate 5 obtain ⟨k,hk,h4⟩:=KM x;unfold tI;rw [hk];rcases (show k=0\/k=1\/k=2\/k=3 by omega) with rfl | rfl | rfl | rfl<;>rfl
theorem rB:∀ {p q r s:Nat} (hp:p∈codesN) (hq:q∈codesN) (hr:r∈codesN) (hs:s∈codesN) (x:Int),tI [p,q,r,s] x∈codesN:=by iterate 9
 obtain ⟨k,hk,h4⟩:=KM x;unfold tI;rw [hk];rcases (show k=0\/k=1\/k=2\/k=3 by omega) with rfl | rfl | rfl | rfl
 ·exact hp
 ·exact hq
 ·exact hr
 ·exact hs
theorem MN:∀ {m:Nat} {T:Qm} {a b c d p q r s:Nat} {g:G} (h:T.At "heaps" (.lst [.int a,.int b,.int c,.int d])) (h2:T.At "count" (.int 3)) (h3:T.At "letters" (.lst [.int p,.int q,.int r,.int s])) (hp:p∈codesN) (hq:q∈codesN) (hr:r∈codesN) (hs:s∈codesN),∃ x y z:Nat,o7 3 m T g "codes" (.lst [.int x,.int y,.int z]) g/\x∈codesN/\y∈codesN/\z∈codesN:=by iterate 18 refine ⟨tI [p,q,r,s] (aL c 1),tI [p,q,r,s] (aL c 4),tI [p,q,r,s] (aL c 16),?_,rB hp hq hr hs _,rB hp hq hr hs _,rB hp hq hr hs _⟩;have s0:=rD p q r s (aL c 1);have s1:=rD p q r s (aL c 4);have s2:=rD p q r s (aL c 16);unfold o7;symm
theorem NO:∀ {m:Nat} {T:Qm} {a b c d p q r s:Nat} {g:G} (h:T.At "heaps" (.lst [.int a,.int b,.int c,.int d])) (h2:T.At "count" (.int 4)) (h3:T.At "letters" (.lst [.int p,.int q,.int r,.int s])) (hp:p∈codesN) (hq:q∈codesN) (hr:r∈codesN) (hs:s∈codesN),∃ x y z u:Nat,o7 3 m T g "codes" (.lst [.int x,.int y,.int z,.int u]) g/\x∈codesN/\y∈codesN/\z∈codesN/\u∈codesN:=by iterate 18 refine ⟨tI [p,q,r,s] (aL c 1),tI [p,q,r,s] (aL c 4),tI [p,q,r,s] (aL c 16),tI [p,q,r,s] (aL c 64),?_,rB hp hq hr hs _,rB hp hq hr hs _,rB hp hq hr hs _,rB hp hq hr hs _⟩;have s0:=rD p q r s (aL c 1);have s1:=rD p q r s (aL c 4);have s2:=rD p q r s (aL c 16);have s3:=rD p q r s (aL c 64);unfold o7;symm
noncomputable def wW (h:Nat) (cs:List Nat) (i:Nat):List Un:=Bl i (yq (aL h ((8 ^ i:Nat):Int))) (cs.getD i 9)
noncomputable def Qf (cs:List Nat) (i:Nat):List Nat:=DF (cs.getD i 9)
noncomputable def rV (cs:List Nat) (i:Nat):Int:=((cs.getD i 9:Nat):Int)
theorem xT:∀ {cs:List Nat} (hc:∀ x∈cs,x∈codesN) (i:Nat),cs.getD i 9∈codesN:=by iterate 3 rw [bl];cases e:cs[i]? with | none=>exact (by decide:(9:Nat)∈codesN) | some x=>exact hc x (bL e)
theorem Hy:∀ {cs:List Nat} (h:Nat) (hc:∀ x∈cs,x∈codesN) (i:Nat),Sq (wW h cs i) (Qf cs i) (rV cs i):=by iterate 4 exact ((Kt (BW _) (xT hc i)).1)
theorem G8:∀ {cs:List Nat} (h:Nat) (hc:∀ x∈cs,x∈codesN) (i:Nat),9∉gl (wW h cs i)/\13∉gl (wW h cs i):=by iterate 4 exact ((Kt (BW _) (xT hc i)).2)
theorem G7:∀ {cs:List Nat} (hc:∀ x∈cs,x∈codesN) (i:Nat),rV cs i<256:=by iterate 3 have:=sx (xT hc i);unfold rV;omega
theorem N7:∀ {m:Nat} {T:Qm} {a b c d:Nat} {g:G} (h:T.At "heaps" (.lst [.int a,.int b,.int c,.int d])) (h2:T.At "count" (.int 3)),o7 4 m T g "tree" (qV false a).d g:=by iterate 9 have e:ceCall P1 (m+248) "_law_tree" [.int 3,.int a] g=some ((qV false a).d,g):=Dj (m:=m+218) (h:=a) (four:=false) (g:=g);unfold o7;symm
theorem N2:∀ {m:Nat} {T:Qm} {a b c d x y z:Nat} {g:G} (h:T.At "heaps" (.lst [.int a,.int b,.int c,.int d])) (h2:T.At "codes" (.lst [.int x,.int y,.int z])) (hx:x∈codesN) (hy:y∈codesN) (hz:z∈codesN),o7 5 m T g "leaves" (.lst [.str (gl (wW d [x,y,z] 0)),.str (gl (wW d [x,y,z] 1)),.str (gl (wW d [x,y,z] 2))]) g:=by iterate 15 have e:=Jw (m:=m+188) (h:=(d:Int)) (g:=g) hx hy hz;simp only [aK,aM] at e;unfold o7;symm;exact e.trans (by rfl')
theorem Ho:∀ (lf:Nat->List Un) (cd:Nat->Int),∀ t∈SM,y7 t (.str [40]) (.str [44]) (.str [41]) [.str (gl (lf 0)),.str (gl (lf 1)),.str (gl (lf 2))]=pD (t.Q2 lf cd):=by iterate 2 exact (sJ ⟨rfl,rfl⟩)
theorem M5:∀ {m:Nat} {T:Qm} {lf:Nat->List Un} {cd:Nat->Int} {t:BT} {g:G} (ht:t∈SM) (h:T.At "tree" t.d) (h2:T.At "leaves" (.lst [.str (gl (lf 0)),.str (gl (lf 1)),.str (gl (lf 2))])),o7 6 m T g "pieces" (.lst (pD (t.Q2 lf cd))) g:=by iterate 9 have e:=N6 (m:=m+158) (o:= .str [40]) (c:= .str [44]) (k:= .str [41]) (x:= .str (gl (lf 0))) (y:= .str (gl (lf 1))) (z:= .str (gl (lf 2))) (g:=g) t ht;simp only [aK,aM] at e;rw [Ho lf cd t ht] at e;unfold o7;symm;refine kR ?_ e;rfl'
theorem NQ:∀ {m:Nat} {T:Qm} {a b c d:Nat} {g:G} (h:T.At "heaps" (.lst [.int a,.int b,.int c,.int d])) (h2:T.At "count" (.int 4)),o7 4 m T g "tree" (qV true a).d g:=by iterate 9 have e:ceCall P1 (m+248) "_law_tree" [.int 4,.int a] g=some ((qV true a).d,g):=Dj (m:=m+218) (h:=a) (four:=true) (g:=g);unfold o7;symm
theorem MW:∀ {m:Nat} {T:Qm} {a b c d x y z u:Nat} {g:G} (h:T.At "heaps" (.lst [.int a,.int b,.int c,.int d])) (h2:T.At "codes" (.lst [.int x,.int y,.int z,.int u])) (hx:x∈codesN) (hy:y∈codesN) (hz:z∈codesN) (hu:u∈codesN),o7 5 m T g "leaves" (.lst [.str (gl (wW d [x,y,z,u] 0)),.str (gl (wW d [x,y,z,u] 1)),.str (gl (wW d [x,y,z,u] 2)),.str (gl (wW d [x,y,z,u] 3))]) g:=by iterate 17 have e:=Jy (m:=m+188) (h:=(d:Int)) (g:=g) hx hy hz hu;simp only [aK,aM] at e;unfold o7;symm;exact e.trans (by rfl')
theorem E7:∀ (lf:Nat->List Un) (cd:Nat->Int),∀ t∈SK,y7 t (.str [40]) (.str [44]) (.str [41]) [.str (gl (lf 0)),.str (gl (lf 1)),.str (gl (lf 2)),.str (gl (lf 3))]=pD (t.Q2 lf cd):=by iterate 2 exact (sN ⟨rfl,rfl,rfl,rfl,rfl⟩)
theorem NR:∀ {m:Nat} {T:Qm} {lf:Nat->List Un} {cd:Nat->Int} {t:BT} {g:G} (ht:t∈SK) (h:T.At "tree" t.d) (h2:T.At "leaves" (.lst [.str (gl (lf 0)),.str (gl (lf 1)),.str (gl (lf 2)),.str (gl (lf 3))])),o7 6 m T g "pieces" (.lst (pD (t.Q2 lf cd))) g:=by iterate 9 have e:=MI (m:=m+158) (o:= .str [40]) (c:= .str [44]) (k:= .str [41]) (x:= .str (gl (lf 0))) (y:= .str (gl (lf 1))) (z:= .str (gl (lf 2))) (u:= .str (gl (lf 3))) (g:=g) t ht;simp only [aK,aM] at e;rw [E7 lf cd t ht] at e;unfold o7;symm;refine kR ?_ e;rfl'
theorem PA:∀ {m:Nat} {T:Qm} {a b c d:Nat} {g:G} (h:T.At "heaps" (.lst [.int a,.int b,.int c,.int d])),o7 7 m T g "mode" (.int ((a / 10 % 3:Nat):Int)) g:=by iterate 8
 have e:aQ (aL (a:Int) 10) 3=((a / 10 % 3:Nat):Int):=by rw [aV _ (by decide),aU _ (by decide)];rfl
 rw [<-e];unfold o7;symm
theorem JC:∀ (x:Nat),subD P1 (.str [10,9,13,32]) (.int (aQ (aL (x:Int) 30) 4))=some (.str [([10,9,13,32]:List Nat).getD (x / 30 % 4) 10]):=by iterate 1
 have e:aQ (aL (x:Int) 30) 4=((x / 30 % 4:Nat):Int):=by rw [aV _ (by decide),aU _ (by decide)];rfl
 rw [e];have h4:x / 30 % 4<4:=bR _ (by decide);generalize x / 30 % 4=k at h4;rcases (show k=0\/k=1\/k=2\/k=3 by omega) with rfl | rfl | rfl | rfl<;>rfl
theorem Ps:∀ {m:Nat} {T:Qm} {a b c d mo:Nat} {g:G} (hm:mo<3) (h:T.At "heaps" (.lst [.int a,.int b,.int c,.int d])) (h2:T.At "mode" (.int (mo:Int))),o7 8 m T g "gap" (.str (qU mo (a / 30 % 4))) g:=by iterate 11
 have e:=JC a;unfold o7;rcases (show mo=0\/mo=1\/mo=2 by omega) with rfl | rfl | rfl
 ·symm
 ·symm
 ·symm
theorem vT:∀ (t:BT) (lf:Nat->List Un) (cd:Nat->Int),(t.Q2 lf cd).flatMap (·.1)=t.un lf:=by iterate 3 rw [List.flatMap_def,BT.Q2,BT.S4];rfl
theorem H9:∀ (mo:Nat),(ym mo).length<=1:=by iterate 1 unfold ym;split<;>simp
theorem Ip:∀ (mo i:Nat),(qU mo i).length<=1:=by iterate 2 unfold qU;split<;>simp
theorem PB:∀ {m:Nat} {T:Qm} {t:BT} {lf:Nat->List Un} {cd:Nat->Int} {mo i:Nat} {g:G} (hl:(gl (t.un lf)).length<800) (hm:mo<3) (h:T.At "pieces" (.lst (pD (t.Q2 lf cd)))) (h2:T.At "mode" (.int (mo:Int))) (h3:T.At "gap" (.str (qU mo i))),o7 9 m T g "text" (.str (o9 mo i (gl (t.un lf)))) g:=by iterate 13
 have hj:=zq (P:=t.Q2 lf cd) (g:=g) (by rw [vT];unfold lim;omega);rw [vT] at hj;have e:=Bm (m:=m+185) (mo:=mo) (w:=gl (t.un lf)) (g:=g) hm (by omega);simp only [aK,aM] at e;have l1:=yZ (zx mo (gl (t.un lf))) (gl (t.un lf));have l2:=H9 mo;have l3:=Ip mo i;unfold o9;generalize hS:ym mo++lm (zx mo (gl (t.un lf))) (gl (t.un lf))++ym mo=S at *;have l4:S.length<=1700:=by rw [<-hS,aw,aw];omega
 have a1:=rG (a:=[13,9,32,10]) (b:=S) (by rw [aw];simp [lim];omega);have a2:=rG (a:=[13,9,32,10]++S) (b:=qU mo i) (by rw [aw,aw];simp [lim];omega);have a3:=rG (a:=[13,9,32,10]++S++qU mo i) (b:=[101,110,100]) (by rw [aw,aw,aw];simp [lim];omega);generalize qU mo i=gp at *;unfold o7;clear hS l1 l2 l3 l4;symm
noncomputable def gT (cs:List Nat) (ln:Int):G:=[.sg cs,.lex ln (some 0) []]
theorem Od:∀ {m:Nat} {T:Qm} {tx:List Nat} (h:T.At "text" (.str tx)),o7 10 m T [] "lexer" (.loc 1) (gT tx 1):=by iterate 4 have e:ceCall P1 (m+248) "_law_lexer" [.str tx] []=some (.loc 1,gT tx 1):=qH (h:=uO) (by rfl') (by omega) (by rfl);unfold o7;symm
theorem PD:∀ {cs:List Nat} {ln:Int},methD "get_token" (.loc 1) [] (gT cs ln)=some (.str (tok cs ln).1,gT (tok cs ln).2.1 (tok cs ln).2.2):=by iterate 2 rfl'
theorem NM:∀ {m:Nat} {T:Qm} {tx w r:List Nat} {ln:Int} (h:T.At "lexer" (.loc 1)) (ht:tok tx 1=(w,r,ln)),o7 11 m T (gT tx 1) "word" (.str w) (gT r ln):=by iterate 8
 have e1:(tok tx 1).1=w:=by rw [ht]
 have e2:gT (tok tx 1).2.1 (tok tx 1).2.2=gT r ln:=by rw [ht]
 refine Ab ?_ (congrArg D.str e1) e2;symm
theorem M3:∀ {m:Nat} {T:Qm} {t:BT} {lf:Nat->List Un} {op:Nat->List Nat} {cd:Nat->Int} {g:G} (ahb:∀ i,Sq (lf i) (op i) (cd i)) (hs:t.size<=30) (h:T.At "word" (.str (gl (t.un lf)))),o7 12 m T g "told" (.lst ((t.Q0 cd).map D.int)) g:=by iterate 10 have e:=Gl (m:=m+168) ahb hs (g:=g);simp only [aK,aM] at e;unfold o7;symm
theorem Nk:∀ {m:Nat} {T:Qm} {cs:List Nat} {ln:Int},o7 13 m T (gT cs ln) "table" (.loc 2) (gD cs ln [] []):=by iterate 4 unfold o7;symm
noncomputable abbrev uL (i m:Nat) (T:Qm) (g g':G):Prop:=ceS P1 (m+250) lwC ⟨T,[],none⟩ (rI i) g=some (.next,⟨T,[],none⟩,g')
theorem G3:∀ (t:BT) (lf:Nat->List Un) (cd:Nat->Int),cD (t.Q2 lf cd)=(t.Q0 cd).map D.int:=by iterate 3 rw [<-Dc (lf:=lf)];simp [cD]
theorem E8:∀ (w:List Nat),cmp P1 .NotEq (.str w) (.str w)=some false:=by iterate 1
 have:cmp P1 .NotEq (.str w) (.str w)=some (!(w==w)):=by rfl'
 rw [this];simp
theorem FW:∀ (x y z:Nat),∀ t∈SM,y7 t (.int 7) (.int 12) (.int 8) [.int x,.int y,.int z]=(t.Q0 (rV [x,y,z])).map D.int:=by iterate 3 exact (sJ ⟨rfl,rfl⟩)
theorem PW:∀ (cd:Nat->Int),∀ t∈SM,t.nm cd 0=256:=by iterate 1 exact (sJ ⟨rfl,rfl⟩)
theorem Mp:∀ {m x y z:Nat} {T:Qm} {t:BT} {lf:Nat->List Un} {op:Nat->List Nat} {cs:List Nat} {ln:Int} (ht:t∈SM) (ahb:∀ i,Sq (lf i) (op i) (rV [x,y,z] i)) (h1:T.At "word" (.str (gl (t.un lf)))) (h2:T.At "pieces" (.lst (pD (t.Q2 lf (rV [x,y,z]))))) (h3:T.At "told" (.lst ((t.Q0 (rV [x,y,z])).map D.int))) (h4:T.At "tree" t.d) (h5:T.At "codes" (.lst [.int x,.int y,.int z])) (h6:T.At "table" (.loc 2)),uL 14 m T (gD cs ln [] []) (gD cs ln [] (t.Qu (rV [x,y,z]) 0)):=by iterate 18
 have hq:=ak.mp FI t ht;simp only [ai,decide_eq_true_eq,beq_iff_eq] at hq;have Um:=Bg ahb t;have hj:=zq (P:=t.Q2 lf (rV [x,y,z])) (g:=gD cs ln [] []) (by rw [vT];unfold lim;omega);rw [vT] at hj;have c1:=E8 (gl (t.un lf));have e2:=N6 (m:=m+154) (o:= .int 7) (c:= .int 12) (k:= .int 8) (x:= .int x) (y:= .int y) (z:= .int z) (g:=gD cs ln [] []) t ht;simp only [aK,aM] at e2;rw [FW x y z t ht] at e2;have c2:=CD (t.Q0 (rV [x,y,z]));have e3:=CN ahb t (m+243) 2 (gD cs ln [] []) [] (by omega) hq.1.2 rfl (by simp;omega);rw [G3,hG,PW _ t ht,a9] at e3;have e3:ceCall P1 (m+243) "_law_read" [.lst (pD (t.Q2 lf (rV [x,y,z]))),.lst ((t.Q0 (rV [x,y,z])).map D.int),.loc 2] (gD cs ln [] [])=some (.int 256,gD cs ln [] (t.Qu (rV [x,y,z]) 0)):=e3;have hle:((t.Q0 (rV [x,y,z])).map D.int).length<=lim:=by rw [aG,uT];unfold lim;omega
 unfold gD at *;unfold uL;symm
theorem FU:∀ (x y z u:Nat),∀ t∈SK,y7 t (.int 7) (.int 12) (.int 8) [.int x,.int y,.int z,.int u]=(t.Q0 (rV [x,y,z,u])).map D.int:=by iterate 4 exact (sN ⟨rfl,rfl,rfl,rfl,rfl⟩)
theorem PP:∀ (cd:Nat->Int),∀ t∈SK,t.nm cd 0=256:=by iterate 1 exact (sN ⟨rfl,rfl,rfl,rfl,rfl⟩)
theorem Mg:∀ {m x y z u:Nat} {T:Qm} {t:BT} {lf:Nat->List Un} {op:Nat->List Nat} {cs:List Nat} {ln:Int} (ht:t∈SK) (ahb:∀ i,Sq (lf i) (op i) (rV [x,y,z,u] i)) (h1:T.At "word" (.str (gl (t.un lf)))) (h2:T.At "pieces" (.lst (pD (t.Q2 lf (rV [x,y,z,u]))))) (h3:T.At "told" (.lst ((t.Q0 (rV [x,y,z,u])).map D.int))) (h4:T.At "tree" t.d) (h5:T.At "codes" (.lst [.int x,.int y,.int z,.int u])) (h6:T.At "table" (.loc 2)),uL 14 m T (gD cs ln [] []) (gD cs ln [] (t.Qu (rV [x,y,z,u]) 0)):=by iterate 19
 have hq:=ak.mp HA t ht;simp only [ai,decide_eq_true_eq,beq_iff_eq] at hq;have Um:=Bg ahb t;have hj:=zq (P:=t.Q2 lf (rV [x,y,z,u])) (g:=gD cs ln [] []) (by rw [vT];unfold lim;omega);rw [vT] at hj;have c1:=E8 (gl (t.un lf));have e2:=MI (m:=m+154) (o:= .int 7) (c:= .int 12) (k:= .int 8) (x:= .int x) (y:= .int y) (z:= .int z) (u:= .int u) (g:=gD cs ln [] []) t ht;simp only [aK,aM] at e2;rw [FU x y z u t ht] at e2;have c2:=CD (t.Q0 (rV [x,y,z,u]));have e3:=CN ahb t (m+243) 2 (gD cs ln [] []) [] (by omega) hq.1.2 rfl (by simp;omega);rw [G3,hG,PP _ t ht,a9] at e3;have e3:ceCall P1 (m+243) "_law_read" [.lst (pD (t.Q2 lf (rV [x,y,z,u]))),.lst ((t.Q0 (rV [x,y,z,u])).map D.int),.loc 2] (gD cs ln [] [])=some (.int 256,gD cs ln [] (t.Qu (rV [x,y,z,u]) 0)):=e3;have hle:((t.Q0 (rV [x,y,z,u])).map D.int).length<=lim:=by rw [aG,uT];unfold lim;omega
 unfold gD at *;unfold uL;symm
theorem NJ:∀ {m:Nat} {T:Qm} {u:List Un} {o:List Nat} {c:Int} {rest:List D} {g:G} (ahb:Sq u o c) (h:T.At "leaves" (.lst (.str (gl u)::rest))),uL 15 m T g g:=by iterate 9
 obtain ⟨p1,p2,p3,p4,p5,p6⟩:=Ca ahb;have hk:=ahb.k;have l1:(gl (u++[(false,41)])).length<=30:=by rw [qJ,aw];simp [gl,oY,oZ] at hk ⊢;omega
 have l2:(gl (u++[(false,41),(false,40)])).length<=30:=by rw [qJ,aw];simp [gl,oY,oZ] at hk ⊢;omega
 have a1:binop .Add (.str (gl u)) (.str [41])=some (.str (gl (u++[(false,41)]))):=by have:=rG (a:=gl u) (b:=[41]) (by rw [aw];simp [lim];omega);rw [this,qJ];rfl
 have a2:binop .Add (.str (gl u)) (.str [41,40])=some (.str (gl (u++[(false,41),(false,40)]))):=by have:=rG (a:=gl u) (b:=[41,40]) (by rw [aw];simp [lim];omega);rw [this,qJ];rfl
 have e1:=uK (m:=m+175) (g:=g) p5 p3 (by omega);have e2:=uK (m:=m+174) (g:=g) p6 p4 (by omega);rw [p1] at e1;rw [p2] at e2;simp only [aK,aM] at e1 e2;unfold uL;symm
noncomputable def wN (w:Int×List Nat):D:= .tup [.int w.1,pk w.2]
theorem E5:∀ (t:BT) (cs:List Nat),t.wI.map (qD (rV cs))=(oL t cs).map wN:=by iterate 2 unfold BT.wI oL;rw [b7,b7];refine cN fun w _=>?_;simp only [dC,qD,wN,pk,o6,b7];rfl
theorem Kh:∀ (t:BT) (cs:List Nat),cmp P1 .NotEq (.lst ((oL t cs).map wN)) (.lst ((oL t cs).map wN))=some false:=by iterate 2 rw [<-E5];exact Jx _ _
theorem Jh:∀ {k:Nat} {row:List Nat} {g:G} (hb:∀ x∈row,x<64) (hl:row.length<=4),ceCall P1 (k+31) "_digits2int" [.lst (row.map fun x:Nat=>D.int x).reverse,.int 6] g=some (.int (ca row:Nat),g):=by iterate 5 have:=GH (k:=k+30) (n:=6) (l:=row.reverse) (g:=g) (by omega) (by decide) (by rw [ed];omega) (fun d hd=>hb d (dm.mp hd));rw [cu,dq] at this;exact this
noncomputable def Ol:Expr:=NI (yi (rI 17)) [1]
theorem DO:∀ {m L:Nat} {T:Qm} {ws:List (Int×List Nat)} {g:G} (hL:L<=4) (hw:∀ w∈ws,Lt L w.2),iterLoop (tg (m+100) lwC ⟨T,[],none⟩ Ol) (ws.map wN) [] g=some ((ws.map rE).map re,g,none):=by iterate 7
 rw [b7];refine qz (F:=fun w=>re (rE w)) fun w h acc=>?_;have hh:=hw w h;have e:=fun k=>Jh (k:=k) (row:=w.2) (g:=g) hh.lt (by rw [hh.1];exact hL);unfold tg;symm
 ·exact e (m+65)
 symm
theorem LD:∀ {m:Nat} {T:Qm} {t:BT} {cl:List Nat} {cs:List Nat} {ln:Int} (ht:t∈SM) (hc:∀ x∈cl,x∈codesN) (h1:T.At "lexer" (.loc 1)) (h2:T.At "table" (.loc 2)) (h3:T.At "count" (.int 3)),o7 16 m T (gD cs ln [] (t.Qu (rV cl) 0)) "words" (.lst ((oL t cl).map wN)) (gD cs ln [] (t.Qu (rV cl) 0)):=by iterate 11
 have e:=CS (m:=m+168) (n:=7) (cd:=rV cl) (G7 hc) (t:=cs) (ln:=ln) (tb:=t.UQ 0) (W:=t.wI) (by decide) (OH t ht);simp only [aK,aM] at e;rw [<-(Kr (rV cl) t 0).1,E5] at e;unfold gD at *;unfold o7;symm
 ·refine kR ?_ e;rfl'
 symm
theorem D7:∀ (x y z:Nat),∀ t∈SM,t.words.map (CX [x,y,z])=(oL t [x,y,z]).map wN:=by iterate 3 exact (sJ ⟨rfl,rfl⟩)
theorem LV:∀ {m:Nat} {T:Qm} {t:BT} {cl:List Nat} {cs:List Nat} {ln:Int} (ht:t∈SK) (hc:∀ x∈cl,x∈codesN) (h1:T.At "lexer" (.loc 1)) (h2:T.At "table" (.loc 2)) (h3:T.At "count" (.int 4)),o7 16 m T (gD cs ln [] (t.Qu (rV cl) 0)) "words" (.lst ((oL t cl).map wN)) (gD cs ln [] (t.Qu (rV cl) 0)):=by iterate 11
 have e:=CS (m:=m+168) (n:=15) (cd:=rV cl) (G7 hc) (t:=cs) (ln:=ln) (tb:=t.UQ 0) (W:=t.wI) (by decide) (OU t ht);simp only [aK,aM] at e;rw [<-(Kr (rV cl) t 0).1,E5] at e;unfold gD at *;unfold o7;symm
 ·refine kR ?_ e;rfl'
 symm
theorem D9:∀ (x y z u:Nat),∀ t∈SK,t.words.map (CX [x,y,z,u])=(oL t [x,y,z,u]).map wN:=by iterate 4 exact (sN ⟨rfl,rfl,rfl,rfl,rfl⟩)
theorem Ax:∀ {t:BT} {cs:List Nat} {L:Nat} (hw:∀ w∈oL t cs,Lt L w.2),AF ((oL t cs).map rE) []=kt (qb t cs)/\KL L (qb t cs)/\((qb t cs).map (·.1)).Nodup:=by iterate 4 have:=vP (ws:=oL t cs) (kv:=[]) hw (fun p hp=>by cases hp);refine ⟨this.1,this.2,xt (by simp)⟩
theorem se:∀ (t:BT) (cs:List Nat),(oL t cs).length=t.words.length:=by iterate 2 simp [oL]
theorem M4:∀ {m L:Nat} {T:Qm} {t:BT} {cs:List Nat} {g:G} (hL:L<=4) (hw:∀ w∈oL t cs,Lt L w.2) (hl:t.words.length<=8) (h:T.At "words" (.lst ((oL t cs).map wN))),o7 17 m T g "sums" (.QC (kt (qb t cs))) g:=by iterate 10
 have e1:=DO (m:=m+146) (T:=T) (g:=g) hL hw;have e2:=wT (m:=m+198) (g:=g) (ws:=(oL t cs).map rE) (by rw [aG,se];omega);rw [(Ax hw).1] at e2;simp only [aK,aM] at e1 e2;have hle:(((oL t cs).map rE).map re).length<=lim:=by rw [aG,aG,se];unfold lim;omega
 unfold o7;symm
noncomputable def NS:Expr:=NI (yi (rI 18)) [1,1,1]
theorem yL:∀ {m L:Nat} {T:Qm} {ws:List (Int×List Nat)} {g:G} (hL:L<=4) (hw:∀ w∈ws,Lt L w.2),iterLoop (tg (m+100) lwC ⟨T,[],none⟩ NS) (ws.map wN) [] g=some ((ws.map rE).map re,g,none):=by iterate 7
 rw [b7];refine qz (F:=fun w=>re (rE w)) fun w h acc=>?_;have hh:=hw w h;have e:=rX (m:=m+51) (row:=w.2) (g:=g) (by rw [hh.1];exact hL) hh.lt;simp only [aK,aM,pk] at e;unfold tg;symm
 ·exact e
 symm
theorem KZ:∀ {m x y z:Nat} {T:Qm} {t:BT} {g:G} (ht:t∈SM) (hw:∀ w∈oL t [x,y,z],Lt 3 w.2) (h:T.At "words" (.lst ((oL t [x,y,z]).map wN))) (h2:T.At "sums" (.QC (kt (qb t [x,y,z])))) (h3:T.At "tree" t.d) (h4:T.At "codes" (.lst [.int x,.int y,.int z])),uL 18 m T g g:=by iterate 13
 have hq:=ak.mp FI t ht;simp only [ai,decide_eq_true_eq,beq_iff_eq] at hq;have c1:=Kh t [x,y,z];have e0:=Md (m:=m+155) (x:=x) (y:=y) (z:=z) (g:=g) t ht;rw [D7 x y z t ht] at e0;obtain ⟨k1,k2,k3⟩:=Ax hw;have c2:=J2 k2 k3;have e1:=yL (m:=m+142) (T:=T) (g:=g) (by decide) hw;have e2:=wT (m:=m+194) (g:=g) (ws:=(oL t [x,y,z]).map rE) (by rw [aG,se];omega);rw [k1] at e2;simp only [aK,aM] at e0 e1 e2;have hle:(((oL t [x,y,z]).map rE).map re).length<=lim:=by rw [aG,aG,se];unfold lim;omega
 clear hw k1 k2 k3;unfold uL;symm
theorem Mu:∀ {m x y z u:Nat} {T:Qm} {t:BT} {g:G} (ht:t∈SK) (hw:∀ w∈oL t [x,y,z,u],Lt 4 w.2) (h:T.At "words" (.lst ((oL t [x,y,z,u]).map wN))) (h2:T.At "sums" (.QC (kt (qb t [x,y,z,u])))) (h3:T.At "tree" t.d) (h4:T.At "codes" (.lst [.int x,.int y,.int z,.int u])),uL 18 m T g g:=by iterate 14
 have hq:=ak.mp HA t ht;simp only [ai,decide_eq_true_eq,beq_iff_eq] at hq;have c1:=Kh t [x,y,z,u];have e0:=LC (m:=m+155) (x:=x) (y:=y) (z:=z) (u:=u) (g:=g) t ht;rw [D9 x y z u t ht] at e0;obtain ⟨k1,k2,k3⟩:=Ax hw;have c2:=J2 k2 k3;have e1:=yL (m:=m+142) (T:=T) (g:=g) (by decide) hw;have e2:=wT (m:=m+194) (g:=g) (ws:=(oL t [x,y,z,u]).map rE) (by rw [aG,se];omega);rw [k1] at e2;simp only [aK,aM] at e0 e1 e2;have hle:(((oL t [x,y,z,u]).map rE).map re).length<=lim:=by rw [aG,aG,se];unfold lim;omega
 clear hw k1 k2 k3;unfold uL;symm
theorem Pc:(SM.all fun t=>t.words.all fun w=>w.1==1 ||w.1== -1)=true:=by iterate 0 decide+kernel
theorem OL:(SK.all fun t=>t.words.all fun w=>w.1==1 ||w.1== -1)=true:=by iterate 0 decide+kernel
noncomputable def LO (e:Expr):Str:=((ze e).bind fun q=>qE q.1).getD ""
theorem zh:∀ {p:bY} {sc:aX} {st:St} {e:Expr} {xs:List D} (h:nameD p sc st (LO e)=some (.lst xs)),qk p sc st e=none:=by iterate 6
 unfold LO at h;unfold qk;cases e1:ze e with
 | none=>rfl
 | some q=>
  rw [e1] at h;show (qE q.1).bind _=_;have h:nameD p sc st ((qE q.1).getD "")=some (.lst xs):=h;cases e2:qE q.1 with
  | none=>rfl
  | some y=>
   rw [e2] at h;have h:nameD p sc st y=some (.lst xs):=h;show (if mt y=true then _ else none)=_;split
   ·rw [h];rfl
   ·rfl
theorem Oa:LO (yi (rI 19))="words" :=by iterate 0 rfl'
theorem v4:∀ (a b c:Nat),aQ (aL (a:Int) (b:Int)) (c:Int)=((a / b % c:Nat):Int):=by iterate 3 rw [aV _ (by omega),aU _ (by omega)];rfl
theorem Mw:∀ (w:List Nat),cmp P1 .Eq (.int (1+nl w)) (.int (1+sU 10 w))=some true:=by iterate 1
 have:cmp P1 .Eq (.int (1+nl w)) (.int (1+sU 10 w))=some ((1+nl w)==(1+sU 10 w)):=by rfl'
 rw [this,show sU 10 w=nl w from rfl];simp
theorem LG:∀ {m:Nat} {T:Qm} {a b c d:Nat} {t:BT} {cl:List Nat} {g:G} (ht:t∈SM) (h:T.At "words" (.lst ((oL t cl).map wN))) (h2:T.At "heaps" (.lst [.int a,.int b,.int c,.int d])) (h3:T.At "count" (.int 3)),∃ w∈oL t cl,ceS P1 (m+250) lwC ⟨T,[],none⟩ (rI 19) g=some (.next,⟨("chosen",pk w.2)::("turned",.int w.1)::T,[],none⟩,g):=by iterate 13
 have hq:=ak.mp FI t ht;simp only [ai,decide_eq_true_eq,beq_iff_eq] at hq;have hk:a / 120 % 4<(oL t cl).length:=by rw [se,hq.1.1];exact bR _ (by decide)
 have hs:subD P1 (.lst ((oL t cl).map wN)) (.int (aQ (aL (a:Int) 120) 4))=some (wN (oL t cl)[a / 120 % 4]):=by have e:=v4 a 120 4;have e:aQ (aL (a:Int) 120) 4=((a / 120 % 4:Nat):Int):=e;rw [e];exact pU (by simp [hk])
 refine ⟨_,b5 hk,?_⟩;generalize (oL t cl)[a / 120 % 4]=w at hs;clear hk hq;have hr0:qk P1 lwC ⟨T,[],none⟩ (yi (rI 19))=none:=by refine zh (xs:=(oL t cl).map wN) ?_;rw [Oa];symm
 symm
theorem LF:∀ {m:Nat} {T:Qm} {a b c d:Nat} {g:G} (h2:T.At "heaps" (.lst [.int a,.int b,.int c,.int d])) (h3:T.At "count" (.int 3)),o7 20 m T g "cut" (.int ((a / 11520 % 2+1:Nat):Int)) g:=by iterate 9 have e:aQ (aL (a:Int) 11520) 2=((a / 11520 % 2:Nat):Int):=v4 a 11520 2;refine Ab (d:= .int (1+aQ (aL (a:Int) 11520) 2)) ?_ (by rw [e];congr 1;omega) rfl;symm
theorem L6:∀ {m x y z:Nat} {T:Qm} {a b c d j:Nat} {t:BT} {w:Int×List Nat} {g:G} (ht:t∈SM) (hc:∀ v∈[x,y,z],v∈codesN) (hF:Fin t [x,y,z]) (hw:∀ w∈oL t [x,y,z],Lt 3 w.2) (hm:w∈oL t [x,y,z]) (hj:j<2) (h1:T.At "sums" (.QC (kt (qb t [x,y,z])))) (h2:T.At "heaps" (.lst [.int a,.int b,.int c,.int d])) (h3:T.At "count" (.int 3)) (h4:T.At "codes" (.lst [.int x,.int y,.int z])) (h5:T.At "turned" (.int w.1)) (h6:T.At "chosen" (pk w.2)) (h7:T.At "cut" (.int ((j+1:Nat):Int))),∃ g',uL 21 m T g (g++g'):=by iterate 26
 have hq:=ak.mp FI t ht;simp only [ai,decide_eq_true_eq,beq_iff_eq] at hq;obtain ⟨k1,k2,k3⟩:=Ax hw;have TB:(qb t [x,y,z]).length<=8:=by have:=wn (oL t [x,y,z]) [];rw [se,hq.1.1] at this;unfold qb;simp at this;omega
 have WR:w.1=1\/w.1= -1:=by have h:=ak.mp Pc t ht;obtain ⟨v,hv,rfl⟩:=aH.mp hm;have:=ak.mp h v hv;simpa using this
 have RC:∀ k,k<3->[x,y,z].getD k 9∈[x,y,z]:=fun k hk=>by rw [bl,au (show k<[x,y,z].length from hk)];exact b5 _
 have hx:=RC (a / 960 % 3) (bR _ (by decide));have hs:subD P1 (.lst [.int x,.int y,.int z]) (.int (aQ (aL (a:Int) 960) 3))=some (.int ([x,y,z].getD (a / 960 % 3) 9:Nat)):=by have e:aQ (aL (a:Int) 960) 3=((a / 960 % 3:Nat):Int):=v4 a 960 3;rw [e];have RJ:a / 960 % 3<3:=bR _ (by decide);generalize a / 960 % 3=k at RJ;rcases (show k=0\/k=1\/k=2 by omega) with rfl | rfl | rfl<;>rfl
 generalize [x,y,z].getD (a / 960 % 3) 9=v at hx hs;have e1:ceCall P1 (m+244) "_law_led" [.QC (kt (qb t [x,y,z])),.lst [.int x,.int y,.int z],.int v] g=some (.bool true,g):=HT (m:=m+84) (L:=2) (g:=g) (kv:=qb t [x,y,z]) (cs:=[x,y,z]) (x:=v) (.inl rfl) k2 k3 rfl hF.bnd (fun p hp=>Fh (k2 p hp) (.inl rfl)) TB hx (hF.led v hx);have U5:=hw w hm;have S1:w.2.take (j+1)++w.2.drop (j+1)=w.2:=kK _ _;have Te:(w.2.take (j+1)).length=j+1:=by rw [gK,U5.1];omega
 have Va:(w.2.drop (j+1)).length=3-(j+1):=by rw [ja,U5.1]
 obtain ⟨g',e2⟩:=C4 (m:=m+73) (g:=g) (F:=w.2.take (j+1)) (R:=w.2.drop (j+1)) WR k2 (by omega) (by decide) (fun x hx=>U5.2 x (cZ hx)) (fun x hx=>U5.2 x (eZ hx)) (by intro h;rw [h] at Te;simp at Te) (by intro h;rw [h] at Va;simp at Va;omega) (hF.lay w hm j hj);rw [S1,Te] at e2;simp only [aK,aM] at e2;refine ⟨g',?_⟩;clear hq k1 k2 k3 TB WR RC hx U5 S1 Te Va hF hw hc hm;generalize qb t [x,y,z]=kv at *;unfold uL;symm
theorem Lw:∀ {m:Nat} {T:Qm} {a b c d:Nat} {t:BT} {cl:List Nat} {g:G} (ht:t∈SK) (h:T.At "words" (.lst ((oL t cl).map wN))) (h2:T.At "heaps" (.lst [.int a,.int b,.int c,.int d])) (h3:T.At "count" (.int 4)),∃ w∈oL t cl,ceS P1 (m+250) lwC ⟨T,[],none⟩ (rI 19) g=some (.next,⟨("chosen",pk w.2)::("turned",.int w.1)::T,[],none⟩,g):=by iterate 13
 have hq:=ak.mp HA t ht;simp only [ai,decide_eq_true_eq,beq_iff_eq] at hq;have hk:a / 120 % 8<(oL t cl).length:=by rw [se,hq.1.1];exact bR _ (by decide)
 have hs:subD P1 (.lst ((oL t cl).map wN)) (.int (aQ (aL (a:Int) 120) 8))=some (wN (oL t cl)[a / 120 % 8]):=by have e:=v4 a 120 8;have e:aQ (aL (a:Int) 120) 8=((a / 120 % 8:Nat):Int):=e;rw [e];exact pU (by simp [hk])
 refine ⟨_,b5 hk,?_⟩;generalize (oL t cl)[a / 120 % 8]=w at hs;clear hk hq;have hr0:qk P1 lwC ⟨T,[],none⟩ (yi (rI 19))=none:=by refine zh (xs:=(oL t cl).map wN) ?_;rw [Oa];symm
 symm
theorem KP:∀ {m:Nat} {T:Qm} {a b c d:Nat} {g:G} (h2:T.At "heaps" (.lst [.int a,.int b,.int c,.int d])) (h3:T.At "count" (.int 4)),o7 20 m T g "cut" (.int ((a / 11520 % 3+1:Nat):Int)) g:=by iterate 9 have e:aQ (aL (a:Int) 11520) 3=((a / 11520 % 3:Nat):Int):=v4 a 11520 3;refine Ab (d:= .int (1+aQ (aL (a:Int) 11520) 3)) ?_ (by rw [e];congr 1;omega) rfl;symm
theorem Lo:∀ {m x y z u:Nat} {T:Qm} {a b c d j:Nat} {t:BT} {w:Int×List Nat} {g:G} (ht:t∈SK) (hc:∀ v∈[x,y,z,u],v∈codesN) (hF:Fin t [x,y,z,u]) (hw:∀ w∈oL t [x,y,z,u],Lt 4 w.2) (hm:w∈oL t [x,y,z,u]) (hj:j<3) (h1:T.At "sums" (.QC (kt (qb t [x,y,z,u])))) (h2:T.At "heaps" (.lst [.int a,.int b,.int c,.int d])) (h3:T.At "count" (.int 4)) (h4:T.At "codes" (.lst [.int x,.int y,.int z,.int u])) (h5:T.At "turned" (.int w.1)) (h6:T.At "chosen" (pk w.2)) (h7:T.At "cut" (.int ((j+1:Nat):Int))),∃ g',uL 21 m T g (g++g'):=by iterate 27
 have hq:=ak.mp HA t ht;simp only [ai,decide_eq_true_eq,beq_iff_eq] at hq;obtain ⟨k1,k2,k3⟩:=Ax hw;have TB:(qb t [x,y,z,u]).length<=8:=by have:=wn (oL t [x,y,z,u]) [];rw [se,hq.1.1] at this;unfold qb;simp at this;omega
 have WR:w.1=1\/w.1= -1:=by have h:=ak.mp OL t ht;obtain ⟨v,hv,rfl⟩:=aH.mp hm;have:=ak.mp h v hv;simpa using this
 have RC:∀ k,k<4->[x,y,z,u].getD k 9∈[x,y,z,u]:=fun k hk=>by rw [bl,au (show k<[x,y,z,u].length from hk)];exact b5 _
 have hx:=RC (a / 960 % 4) (bR _ (by decide));have hs:subD P1 (.lst [.int x,.int y,.int z,.int u]) (.int (aQ (aL (a:Int) 960) 4))=some (.int ([x,y,z,u].getD (a / 960 % 4) 9:Nat)):=by have e:aQ (aL (a:Int) 960) 4=((a / 960 % 4:Nat):Int):=v4 a 960 4;rw [e];have RJ:a / 960 % 4<4:=bR _ (by decide);generalize a / 960 % 4=k at RJ;rcases (show k=0\/k=1\/k=2\/k=3 by omega) with rfl | rfl | rfl | rfl<;>rfl
 generalize [x,y,z,u].getD (a / 960 % 4) 9=v at hx hs;have e1:ceCall P1 (m+244) "_law_led" [.QC (kt (qb t [x,y,z,u])),.lst [.int x,.int y,.int z,.int u],.int v] g=some (.bool true,g):=HT (m:=m+84) (L:=3) (g:=g) (kv:=qb t [x,y,z,u]) (cs:=[x,y,z,u]) (x:=v) (.inr rfl) k2 k3 rfl hF.bnd (fun p hp=>Fh (k2 p hp) (.inr rfl)) TB hx (hF.led v hx);have U5:=hw w hm;have S1:w.2.take (j+1)++w.2.drop (j+1)=w.2:=kK _ _;have Te:(w.2.take (j+1)).length=j+1:=by rw [gK,U5.1];omega
 have Va:(w.2.drop (j+1)).length=4-(j+1):=by rw [ja,U5.1]
 obtain ⟨g',e2⟩:=C4 (m:=m+73) (g:=g) (F:=w.2.take (j+1)) (R:=w.2.drop (j+1)) WR k2 (by omega) (by decide) (fun x hx=>U5.2 x (cZ hx)) (fun x hx=>U5.2 x (eZ hx)) (by intro h;rw [h] at Te;simp at Te) (by intro h;rw [h] at Va;simp at Va;omega) (hF.lay w hm j hj);rw [S1,Te] at e2;simp only [aK,aM] at e2;refine ⟨g',?_⟩;clear hq k1 k2 k3 TB WR RC hx U5 S1 Te Va hF hw hc hm;generalize qb t [x,y,z,u]=kv at *;unfold uL;symm
theorem NW:∀ {m:Nat} {T:Qm} {tx:List Nat} {rows:List (List D)} {g':G} (h1:T.At "lexer" (.loc 1)) (h2:T.At "text" (.str tx)),∃ g2,ceS P1 (m+250) lwC ⟨T,[],none⟩ (rI 22) (gD [101,110,100] (1+nl tx) [] rows++g')=some (.ret (.bool true),⟨T,[],none⟩,g2):=by iterate 7 have c:=Mw tx;refine ⟨gD [] (1+nl tx) [] rows++g',?_⟩;symm
noncomputable def wX (n:Nat) (T:Qm) (ss:List Stmt) (g:G):Prop:=∃ st g2,ceSs P1 n lwC ⟨T,[],none⟩ ss g=some (.ret (.bool true),st,g2)
theorem oQ:∀ {i m:Nat} {T:Qm} {g g':G} {x:Str} {d:D} {ss:List Stmt} (h:o7 i m T g x d g') (h2:wX (m+250) ((x,d)::T) ss g'),wX (m+251) T (rI i::ss) g:=by iterate 10 obtain ⟨st,g2,h2⟩:=h2;exact ⟨st,g2,ss_step h h2⟩
theorem wF:∀ {i m:Nat} {T:Qm} {g g':G} {ss:List Stmt} (h:uL i m T g g') (h2:wX (m+250) T ss g'),wX (m+251) T (rI i::ss) g:=by iterate 8 obtain ⟨st,g2,h2⟩:=h2;exact ⟨st,g2,ss_step h h2⟩
theorem GW:∀ {i m:Nat} {T T':Qm} {g g':G} {ss:List Stmt} (h:ceS P1 (m+250) lwC ⟨T,[],none⟩ (rI i) g=some (.next,⟨T',[],none⟩,g')) (h2:wX (m+250) T' ss g'),wX (m+251) T (rI i::ss) g:=by iterate 9 obtain ⟨st,g2,h2⟩:=h2;exact ⟨st,g2,ss_step h h2⟩
theorem Cw:fb P1 "law" =[rI 0,rI 1,rI 2,rI 3,rI 4,rI 5,rI 6,rI 7,rI 8,rI 9,rI 10,rI 11,rI 12,rI 13,rI 14,rI 15,rI 16,rI 17,rI 18,rI 19,rI 20,rI 21,rI 22]:=by iterate 0 rfl'
theorem Ko:∀ {t:BT} {lf:Nat->List Un} (ahb:∀ i,9∉gl (lf i)/\13∉gl (lf i)),9∉gl (t.un lf)/\13∉gl (t.un lf):=by iterate 3
 induction t with
 | leaf i=>
  have e:BT.un (.leaf i) lf=lf i:=by (dsimp only [BT.un,BT.row];simp)
  rw [e];exact ahb i
 | node l r hl hr=>rw [C0];simp only [qJ,bF,not_or];refine ⟨⟨by decide,hl.1,by decide,hr.1,by decide⟩,⟨by decide,hl.2,by decide,hr.2,by decide⟩⟩
theorem PH:∀ (lf:Nat->List Un),∀ t∈SM,∃ r,gl (t.un lf)=40::r:=by iterate 1 exact (sJ ⟨⟨_,rfl⟩,⟨_,rfl⟩⟩)
theorem Nz:∀ {m:Nat} {zs:List Int} (hl:zs.length<=63) (hp:zs.length / 2 % 2=0),wX (m+273) [("script",.lst (zs.map D.int))] (fb P1 "law") []:=by iterate 4
 rw [Cw];obtain ⟨a,b,c,d,h0,ha⟩:=Pz (m:=m+22) (T:=[("script",.lst (zs.map D.int))]) (g:=[]) rfl hl;refine oQ h0 ?_;have h1:=fun h=>Pv (m:=m+21) (T:=[("heaps",.lst [.int a,.int b,.int c,.int d]),("script",.lst (zs.map D.int))]) (zs:=zs) (g:=[]) h;rw [hp] at h1;have h1:=h1 rfl;refine oQ (d:= .int 3) h1 ?_;obtain ⟨p,q,r,s,h2,Wh,hq1,Zz,Vz⟩:=Py (m:=m+20) (T:=[("count",.int 3),("heaps",.lst [.int a,.int b,.int c,.int d]),("script",.lst (zs.map D.int))]) (g:=[]) rfl;refine oQ h2 ?_;obtain ⟨x,y,z,h3,hx,hy,hz⟩:=MN (m:=m+19) (T:=[("letters",.lst [.int p,.int q,.int r,.int s]),("count",.int 3),("heaps",.lst [.int a,.int b,.int c,.int d]),("script",.lst (zs.map D.int))]) (g:=[]) rfl rfl rfl Wh hq1 Zz Vz;refine oQ h3 ?_;have hc:∀ v∈[x,y,z],v∈codesN:=by simp only [aq,aO,or_false];rintro v (rfl | rfl | rfl)<;>assumption
 refine oQ (m:=m+18) (N7 rfl rfl) ?_;have ht:qV false a∈SM:=by
  rcases yS false a with h | h
  ·exact h.2
  ·exact absurd h.1 (by decide)
 generalize qV false a=t at ht;have ahb:=Hy d hc;have Um:=Bg ahb t;have hq:=ak.mp FI t ht;simp only [ai,decide_eq_true_eq,beq_iff_eq] at hq;obtain ⟨⟨q1,q2⟩,q3⟩:=hq;obtain ⟨w',Yb⟩:=PH (wW d [x,y,z]) t ht;have WI:=Ko (t:=t) (G8 d hc);have WQ:=fun w hw=>ak.mp (ak.mp OE t ht) w hw;have Vg:∀ w∈t.words,w.2.length=3/\∀ i∈w.2,i<[x,y,z].length:=fun w hw=>by have:=WQ w hw;simp only [ai,beq_iff_eq,ak,decide_eq_true_eq] at this;exact this
 have Xq:=Kn hc Vg;have TY:Fin t [x,y,z]:=Ht hc (fun w hw=>(Vg w hw).2) (ak.mp (O2 t ht) _ (OO fun v hv=>by have:=sx (hc v hv);omega));have Tc:a / 10 % 3<3:=bR _ (by decide);refine oQ (m:=m+17) (N2 rfl rfl hx hy hz) ?_;refine oQ (m:=m+16) (M5 (lf:=wW d [x,y,z]) (cd:=rV [x,y,z]) ht rfl rfl) ?_;refine oQ (m:=m+15) (PA rfl) ?_;refine oQ (m:=m+14) (Ps Tc rfl rfl) ?_;refine oQ (m:=m+13) (PB (by omega) Tc rfl rfl rfl) ?_;refine oQ (m:=m+12) (Od rfl) ?_;refine oQ (m:=m+11) (NM rfl (AB Tc Yb WI.1 WI.2)) ?_;refine oQ (m:=m+10) (M3 ahb q2 rfl) ?_;refine oQ (m:=m+9) Nk ?_;refine wF (m:=m+8) (Mp ht ahb rfl rfl rfl rfl rfl rfl) ?_;refine wF (m:=m+7) (NJ (ahb 0) rfl) ?_;refine oQ (m:=m+6) (LD ht hc rfl rfl rfl) ?_;refine oQ (m:=m+5) (M4 (L:=3) (by decide) Xq (by omega) rfl) ?_;refine wF (m:=m+4) (KZ ht Xq rfl rfl rfl rfl) ?_;have fin:=fun (T:Qm) (e1:T.At "words" (.lst ((oL t [x,y,z]).map wN))) (e2:T.At "heaps" (.lst [.int a,.int b,.int c,.int d])) (e3:T.At "count" (.int 3)) (e4:T.At "sums" (.QC (kt (qb t [x,y,z])))) (e5:T.At "codes" (.lst [.int x,.int y,.int z])) (e6:T.At "lexer" (.loc 1)) (e7:T.At "text" (.str (o9 (a / 10 % 3) (a / 30 % 4) (gl (t.un (wW d [x,y,z]))))))=>(show wX (m+254) T [rI 19,rI 20,rI 21,rI 22] (gD [101,110,100] (1+nl (o9 (a / 10 % 3) (a / 30 % 4) (gl (t.un (wW d [x,y,z]))))) [] (t.Qu (rV [x,y,z]) 0)) from by obtain ⟨w,hwm,h19⟩:=LG (m:=m+3) (g:=gD [101,110,100] (1+nl (o9 (a / 10 % 3) (a / 30 % 4) (gl (t.un (wW d [x,y,z]))))) [] (t.Qu (rV [x,y,z]) 0)) ht e1 e2 e3;refine GW (m:=m+3) h19 ?_;refine oQ (m:=m+2) (LF (a:=a) (b:=b) (c:=c) (d:=d) e2 e3) ?_;obtain ⟨g',h21⟩:=L6 (m:=m+1) (T:=("cut",.int ((a / 11520 % 2+1:Nat):Int))::("chosen",pk w.2)::("turned",.int w.1)::T) (j:=a / 11520 % 2) (g:=gD [101,110,100] (1+nl (o9 (a / 10 % 3) (a / 30 % 4) (gl (t.un (wW d [x,y,z]))))) [] (t.Qu (rV [x,y,z]) 0)) ht hc TY Xq hwm (bR _ (by decide)) e4 e2 e3 e5 rfl rfl rfl;refine wF (m:=m+1) h21 ?_;obtain ⟨g2,h22⟩:=NW (m:=m) (T:=("cut",.int ((a / 11520 % 2+1:Nat):Int))::("chosen",pk w.2)::("turned",.int w.1)::T) (tx:=o9 (a / 10 % 3) (a / 30 % 4) (gl (t.un (wW d [x,y,z])))) (rows:=t.Qu (rV [x,y,z]) 0) (g':=g') e6 e7;exact ⟨_,_,ss_step h22 rfl⟩)
 exact fin _ rfl rfl rfl rfl rfl rfl rfl
theorem PG:∀ (lf:Nat->List Un),∀ t∈SK,∃ r,gl (t.un lf)=40::r:=by iterate 1 exact (sN ⟨⟨_,rfl⟩,⟨_,rfl⟩,⟨_,rfl⟩,⟨_,rfl⟩,⟨_,rfl⟩⟩)
theorem MX:∀ {m:Nat} {zs:List Int} (hl:zs.length<=63) (hp:zs.length / 2 % 2=1),wX (m+273) [("script",.lst (zs.map D.int))] (fb P1 "law") []:=by iterate 4
 rw [Cw];obtain ⟨a,b,c,d,h0,ha⟩:=Pz (m:=m+22) (T:=[("script",.lst (zs.map D.int))]) (g:=[]) rfl hl;refine oQ h0 ?_;have h1:=fun h=>Pv (m:=m+21) (T:=[("heaps",.lst [.int a,.int b,.int c,.int d]),("script",.lst (zs.map D.int))]) (zs:=zs) (g:=[]) h;rw [hp] at h1;have h1:=h1 rfl;refine oQ (d:= .int 4) h1 ?_;obtain ⟨p,q,r,s,h2,Wh,hq1,Zz,Vz⟩:=Py (m:=m+20) (T:=[("count",.int 4),("heaps",.lst [.int a,.int b,.int c,.int d]),("script",.lst (zs.map D.int))]) (g:=[]) rfl;refine oQ h2 ?_;obtain ⟨x,y,z,u,h3,hx,hy,hz,hu⟩:=NO (m:=m+19) (T:=[("letters",.lst [.int p,.int q,.int r,.int s]),("count",.int 4),("heaps",.lst [.int a,.int b,.int c,.int d]),("script",.lst (zs.map D.int))]) (g:=[]) rfl rfl rfl Wh hq1 Zz Vz;refine oQ h3 ?_;have hc:∀ v∈[x,y,z,u],v∈codesN:=by simp only [aq,aO,or_false];rintro v (rfl | rfl | rfl | rfl)<;>assumption
 refine oQ (m:=m+18) (NQ rfl rfl) ?_;have ht:qV true a∈SK:=by
  rcases yS true a with h | h
  ·exact absurd h.1 (by decide)
  ·exact h.2
 generalize qV true a=t at ht;have ahb:=Hy d hc;have Um:=Bg ahb t;have hq:=ak.mp HA t ht;simp only [ai,decide_eq_true_eq,beq_iff_eq] at hq;obtain ⟨⟨q1,q2⟩,q3⟩:=hq;obtain ⟨w',Yb⟩:=PG (wW d [x,y,z,u]) t ht;have WI:=Ko (t:=t) (G8 d hc);have WQ:=fun w hw=>ak.mp (ak.mp O9 t ht) w hw;have Vg:∀ w∈t.words,w.2.length=4/\∀ i∈w.2,i<[x,y,z,u].length:=fun w hw=>by have:=WQ w hw;simp only [ai,beq_iff_eq,ak,decide_eq_true_eq] at this;exact this
 have Xq:=Kn hc Vg;have TY:Fin t [x,y,z,u]:=Ht hc (fun w hw=>(Vg w hw).2) (ak.mp (O4 t ht) _ (OP fun v hv=>by have:=sx (hc v hv);omega));have Tc:a / 10 % 3<3:=bR _ (by decide);refine oQ (m:=m+17) (MW rfl rfl hx hy hz hu) ?_;refine oQ (m:=m+16) (NR (lf:=wW d [x,y,z,u]) (cd:=rV [x,y,z,u]) ht rfl rfl) ?_;refine oQ (m:=m+15) (PA rfl) ?_;refine oQ (m:=m+14) (Ps Tc rfl rfl) ?_;refine oQ (m:=m+13) (PB (by omega) Tc rfl rfl rfl) ?_;refine oQ (m:=m+12) (Od rfl) ?_;refine oQ (m:=m+11) (NM rfl (AB Tc Yb WI.1 WI.2)) ?_;refine oQ (m:=m+10) (M3 ahb q2 rfl) ?_;refine oQ (m:=m+9) Nk ?_;refine wF (m:=m+8) (Mg ht ahb rfl rfl rfl rfl rfl rfl) ?_;refine wF (m:=m+7) (NJ (ahb 0) rfl) ?_;refine oQ (m:=m+6) (LV ht hc rfl rfl rfl) ?_;refine oQ (m:=m+5) (M4 (L:=4) (by decide) Xq (by omega) rfl) ?_;refine wF (m:=m+4) (Mu ht Xq rfl rfl rfl rfl) ?_;have fin:=fun (T:Qm) (e1:T.At "words" (.lst ((oL t [x,y,z,u]).map wN))) (e2:T.At "heaps" (.lst [.int a,.int b,.int c,.int d])) (e3:T.At "count" (.int 4)) (e4:T.At "sums" (.QC (kt (qb t [x,y,z,u])))) (e5:T.At "codes" (.lst [.int x,.int y,.int z,.int u])) (e6:T.At "lexer" (.loc 1)) (e7:T.At "text" (.str (o9 (a / 10 % 3) (a / 30 % 4) (gl (t.un (wW d [x,y,z,u]))))))=>(show wX (m+254) T [rI 19,rI 20,rI 21,rI 22] (gD [101,110,100] (1+nl (o9 (a / 10 % 3) (a / 30 % 4) (gl (t.un (wW d [x,y,z,u]))))) [] (t.Qu (rV [x,y,z,u]) 0)) from by obtain ⟨w,hwm,h19⟩:=Lw (m:=m+3) (g:=gD [101,110,100] (1+nl (o9 (a / 10 % 3) (a / 30 % 4) (gl (t.un (wW d [x,y,z,u]))))) [] (t.Qu (rV [x,y,z,u]) 0)) ht e1 e2 e3;refine GW (m:=m+3) h19 ?_;refine oQ (m:=m+2) (KP (a:=a) (b:=b) (c:=c) (d:=d) e2 e3) ?_;obtain ⟨g',h21⟩:=Lo (m:=m+1) (T:=("cut",.int ((a / 11520 % 3+1:Nat):Int))::("chosen",pk w.2)::("turned",.int w.1)::T) (j:=a / 11520 % 3) (g:=gD [101,110,100] (1+nl (o9 (a / 10 % 3) (a / 30 % 4) (gl (t.un (wW d [x,y,z,u]))))) [] (t.Qu (rV [x,y,z,u]) 0)) ht hc TY Xq hwm (bR _ (by decide)) e4 e2 e3 e5 rfl rfl rfl;refine wF (m:=m+1) h21 ?_;obtain ⟨g2,h22⟩:=NW (m:=m) (T:=("cut",.int ((a / 11520 % 3+1:Nat):Int))::("chosen",pk w.2)::("turned",.int w.1)::T) (tx:=o9 (a / 10 % 3) (a / 30 % 4) (gl (t.un (wW d [x,y,z,u])))) (rows:=t.Qu (rV [x,y,z,u]) 0) (g':=g') e6 e7;exact ⟨_,_,ss_step h22 rfl⟩)
 exact fin _ rfl rfl rfl rfl rfl rfl rfl
theorem Eg:∀ {m:Nat} {zs:List Int} (hl:zs.length<=63),wX (m+273) [("script",.lst (zs.map D.int))] (fb P1 "law") []:=by iterate 3
 rcases dU (zs.length / 2) with h | h
 ·exact Nz hl h
 ·exact MX hl h
end MP.Lake
set_option backward.match.sparseCases true
namespace MP.Lake
open PySem PyProof.Rows PySem.W
structure Us (fd:eO):Prop where
 po:fd.params.posonlyargs=[]
 va:fd.params.vararg=none
 ko:fd.params.kwonlyargs=[]
 kw:fd.params.kwarg=none
 df:fd.defaults= .none
theorem Id:∀ (ns:List Str) (vs:List ag),cr ns=true->vs.length=ns.length->(ns.filterMap fun n=>((ns.zip vs).lookup n).map (n,·))=ns.zip vs:=by iterate 0
 have key:∀ (ns:List Str) (vs:List ag) (L:List (Str×ag)),cr ns=true->vs.length=ns.length->(∀ n v,(n,v)∈ns.zip vs->L.lookup n=some v)->(ns.filterMap fun n=>(L.lookup n).map (n,·))=ns.zip vs:=by
  intro ns;induction ns with
  | nil=>intro vs L _ _ _;rfl
  | cons m ns ih=>
   intro vs L hd h hL;cases vs with
   | nil=>simp at h
   | cons v vs=>
    (dsimp only [cr] at hd;simp only [ai] at hd)
    rw [fH,fq,hL m v (by simp)];simp only [cY];rw [ih vs L hd.2 (by simpa using h) fun n w hw=>hL n w (by simp [hw])]
 intro ns vs hd h;refine key ns vs _ hd h ?_;clear key;induction ns generalizing vs with
 | nil=>intro n v hm;simp at hm
 | cons m ns ih=>
  cases vs with
  | nil=>simp at h
  | cons v vs=>
   (dsimp only [cr] at hd;simp only [ai,bG,c7,decide_eq_false_iff_not] at hd)
   intro n w hm;rw [fH] at hm ⊢;rw [aY];rcases aq.mp hm with e | hm2
   ·cases e;simp
   ·have Rl:(n==m)=false:=by
     simp only [beq_eq_false_iff_ne];intro e;subst e;exact hd.1 (hE hm2).1
    rw [Rl];exact ih vs hd.2 (by simpa using h) n w hm2
theorem Br:∀ {ps:List Str} {vs:List ag} {x:Str},vs.length=ps.length->x∈ps->∃ v,(x,v)∈ps.zip vs:=by iterate 0
 intro ps;induction ps with
 | nil=>intro _ _ _ h;cases h
 | cons p ps Qj=>
  intro vs x h hx;cases vs with
  | nil=>simp at h
  | cons v vs=>
   rcases aq.mp hx with rfl | hx
   ·exact ⟨v,by simp⟩
   ·obtain ⟨w,hw⟩:=Qj (vs:=vs) (by simpa using h) hx;exact ⟨w,by simp [hw]⟩
theorem BH:∀ {fd:eO} {ps:List Str} {vs:List ag} (P:Us fd) (hp:fd.params.args.map (·.arg)=ps) (hd:cr ps=true) (h:vs.length=ps.length),iD fd ⟨vs,[]⟩=pure (ps.zip vs):=by iterate 7
 have hn:¬ (decide (vs.length > ps.length)&&true)=true:=by simp;omega
 have hz:=Id ps vs hd h;have hm:∀ k,¬ (!((ps.take k).filter fun n=>((ps.zip vs).lookup n).isNone).isEmpty)=true:=by
  intro k;simp only [bG,List.isEmpty_eq_false_iff,ne_eq,kH,gQ];intro x hx;obtain ⟨v,hv⟩:=Br h (cZ hx);have:∀ {l:List (Str×ag)},(x,v)∈l->¬ (l.lookup x).isNone=true:=by intro l hl e;rw [dT,gA] at e;simpa using e _ hl
  exact this hv
 obtain ⟨q1,q2,q3,q4,q5⟩:=P;obtain ⟨b,sc,⟨po,as,va,ko,kd,kw,de⟩,df,a1,a2,a3,a4,a5,a6⟩:=fd;cases q1;cases q2;cases q3;cases q4;cases q5;cases hp;refine (if_neg hn).trans ?_;refine (if_neg (hm _)).trans ?_;have hzz:∀ (l:List Str) (k:Nat),l.zip (([]:List ag).drop k)=[]:=fun l k=>by rw [ni,List.zip_nil_right]
 have key:∀ {β H:Type} (l:List Str) (k:Nat) (i:β) (f:Str×ag->β->Sem (ForInStep β)) (g:β->Sem H) (r:Sem H),g i=r->(forIn (l.zip (([]:List ag).drop k)) i f >>=g)=r:=fun l k i f g r e=>by rw [hzz];exact e
 refine key _ _ _ _ _ _ ?_;exact congrArg (fun l=>(pure l:Sem (List (Str×ag)))) ((congrArg (fun l:List Str=>l.filterMap fun n=>(((_:List (Str×ag))).lookup n |>.map (n,·))) (aS _)).trans hz)
section
variable (K:Frag)
noncomputable def rO (a:Addr):Obj:=(K.lookup a).getD {cls:= .none,data:= .plain}
noncomputable def HW (a:Addr):Array DictEntry:=match (rO K a).data with | .dict es _=>es | _=>#[]
noncomputable def NT:ag->Bool | .str _ _=>true | _=>false
noncomputable def GY:Data->Bool | .dict _ _=>true | _=>false
noncomputable def MB (a:Addr):Bool:=(K.lookup a).isSome&&GY (rO K a).data&&(HW K a).toList.all fun e=>NT e.key
noncomputable def RG (a:Addr):Str->Option ag:=nsFind (HW K a)
noncomputable def zO:Option ag->Option Addr | some (.ref a)=>some a | _=>none
noncomputable def KY (a:Addr):Option eO:=match (rO K a).data with | .func fd=>some fd | _=>none
noncomputable def Rb:List Addr:=[51,58,172]
noncomputable def KG (fd:eO):Bool:=match fd.code with
| .ref c=>(K.lookup c).isSome&&!Rb.contains c&&(match (rO K c).data with
  | .fields vs=>(match (vs[1]? :Option ag) with
   | some (ix q _)=>q==fd.qualname
   | _=>false)
  | _=>false)
| _=>false
noncomputable def GB (fd:eO) (ps:List Str):Bool:=fd.params.posonlyargs.isEmpty&&fd.params.vararg.isNone&&fd.params.kwonlyargs.isEmpty&&fd.params.kwarg.isNone&&(match fd.defaults with | .none=>true | _=>false)&&(fd.params.args.map (·.arg))==ps
noncomputable def Pt (fd:eO) (ps:List Str):Bool:=fd.globals==bC&&fd.closure.isEmpty&&fd.builtins==bU&&KG K fd&&GB fd ps&&cr ps
noncomputable def Ou (v:Option ag) (ps:List Str):Bool:=match zO v with
| some a=>(K.lookup a).isSome&&!Rb.contains a&&(match KY K a with | some fd=>Pt K fd ps | none=>false)&&(match (rO K a).cls with | .type c=>c=="function" | _=>false)
| none=>false
noncomputable def IZ (v:Option ag):Option (FuncBody×aX):=(zO v).bind fun a=>(KY K a).map fun fd=>(fd.body,fd.scope)
end
noncomputable def cx (w:jl) (h:Heap) (os:kD):Cx:=⟨w,h,[⟨51,55,⟨75,4,84,28⟩,"_int2digits.<locals>.inner"⟩,⟨58,62,⟨90,4,95,55⟩,"_digits2int.<locals>.inner"⟩,⟨172,176,uD,"_law_lexer.<locals>.<lambda>"⟩],120,115,os⟩
section
variable {K:Frag} {w:jl} {h:Heap} {os:kD}
theorem H8:∀ {a:Addr} (e:(K.lookup a).isSome=true),K.lookup a=some (rO K a):=by iterate 2 unfold rO;cases q:K.lookup a with | none=>rw [q] at e;cases e | some o=>rfl
theorem wt:∀ {a:Addr} (KX:K.In h) (e:(K.lookup a).isSome=true) (ht:Rb.contains a=false),F0 (cx w h os) a=some (rO K a):=by iterate 4
 have hn:¬ a∈(cx w h os).T:=by intro hm;have:Rb.contains a=true:=kO.mpr hm;rw [ht] at this;cases this
 unfold F0;rw [if_neg hn];exact KX a _ (H8 e)
theorem vJ:∀ {a:Addr} (KX:K.In h) (e:MB K a=true) (ht:Rb.contains a=false),Ud (F0 (cx w h os)) a (RG K a):=by iterate 4
 simp only [MB,ai] at e;obtain ⟨⟨e1,e2⟩,e3⟩:=e;have hf:=wt (w:=w) (os:=os) KX e1 ht;unfold RG;unfold HW at e3 ⊢;cases hd:(rO K a).data<;>rw [hd] at e2<;>try cases e2
 rename_i es ep;rw [hd] at e3;refine ⟨_,es,ep,hf,hd,fun x hx=>?_,fun _=>rfl⟩;have:=ak.mp e3 x (kT.mpr hx);cases hk:x.key<;>rw [hk] at this<;>try cases this
 exact ⟨_,_,rfl⟩
theorem Kp:∀ {v:Option ag} {ps:List Str} {body:List Stmt} {sc:aX} (KX:K.In h) (e:Ou K v ps=true) (hb:IZ K v=some (.stmts body,sc)),∃ a o fd,v=some (.ref a)/\F0 (cx w h os) a=some o/\o.cls= .type "function" /\KY K a=some fd/\o.data= .func fd/\fd.body= .stmts body/\fd.scope=sc/\fd.globals=bC/\fd.closure=[]/\fd.builtins=bU/\Qv (F0 (cx w h os)) fd.code fd.qualname/\
   ∀ vs:List ag,vs.length=ps.length->iD fd ⟨vs,[]⟩=pure (ps.zip vs):=by iterate 7
 unfold Ou at e;unfold IZ at hb;cases hv:zO v with
 | none=>rw [hv] at e;cases e
 | some a=>
  rw [hv] at e hb;have Zx:v=some (.ref a):=by
   cases v with
   | none=>cases hv
   | some u=>cases u<;>first | (cases hv;rfl) | cases hv
  simp only [ai,bG] at e;obtain ⟨⟨⟨e1,e2⟩,e3⟩,e4⟩:=e;have hf:=wt (w:=w) (os:=os) KX e1 e2;rw [bz] at hb;cases hd:KY K a with
  | none=>rw [hd] at hb;cases hb
  | some fd=>
   rw [hd] at hb e3;rw [cY,fi,cR] at hb;have ZM:(rO K a).data= .func fd:=by unfold KY at hd;cases q:(rO K a).data<;>rw [q] at hd<;>first | (cases hd;rfl) | cases hd
   have hc:(rO K a).cls= .type "function" :=by
    revert e4;cases (rO K a).cls<;>intro e4<;>try cases e4
    rw [eq_of_beq e4]
   simp only [Pt,GB,ai] at e3;obtain ⟨⟨⟨⟨⟨g1,g2⟩,g3⟩,g4⟩,⟨⟨⟨⟨p1,p2⟩,p3⟩,p4⟩,p5⟩,p6⟩,g6⟩:=e3;have P:Us fd:=⟨eR.mp p1,dT.mp p2,eR.mp p3,dT.mp p4,by revert p5;cases fd.defaults<;>intro p5<;>first | rfl | cases p5⟩
   refine ⟨a,_,fd,Zx,hf,hc,hd,ZM,hb.1,hb.2,eq_of_beq g1,eR.mp g2,eq_of_beq g3,?_,fun vs hl=>BH P (eq_of_beq p6) g6 hl⟩;unfold KG at g4;cases RC:fd.code<;>rw [RC] at g4<;>try cases g4
   rename_i c;obtain ⟨c0,c3⟩:=bx.mp g4;obtain ⟨c1,c2⟩:=bx.mp c0;have XT:=wt (w:=w) (os:=os) KX c1 (by rw [bG] at c2;exact c2);cases UL:(rO K c).data<;>rw [UL] at c3<;>try cases c3
   rename_i vs;cases hq:(vs[1]? :Option ag) with
   | none=>replace c3:(match (vs[1]? :Option ag) with | some (ix q _)=>q==fd.qualname | _=>false)=true:=c3;rw [hq] at c3;cases c3
   | some u=>
    replace c3:(match (vs[1]? :Option ag) with | some (ix q _)=>q==fd.qualname | _=>false)=true:=c3;rw [hq] at c3;cases u<;>try cases c3
    exact ⟨c,_,vs,_,rfl,XT,UL,by rw [hq,eq_of_beq c3]⟩
end
noncomputable def yt (b:List Stmt):List Str:=b.filterMap fun
| .FunctionDef y _ _ _ _ _ _ _ _ _=>some y
| _=>none
noncomputable def NC (p:bY):List Str:=p.main.body.filterMap fun st=>(NX st).map (·.1)
theorem CI:∀ {b:List Stmt} {f:Str} {fn:Fn} (h:wm b f=some fn),f∈yt b:=by iterate 4
 obtain ⟨st,hm,hs⟩:=iK h;refine ey.mpr ⟨st,hm,?_⟩;revert hs;cases st<;>intro hs<;>first | (cases hs;done) | skip
 dsimp only at hs ⊢;split at hs
 ·rename_i q;rw [eq_of_beq q]
 ·cases hs
theorem Cv:∀ {f:Str} {fn:Fn} (h:o8 P0 f=some fn),f∈yt P0.main.body:=by iterate 3 exact (CI h)
theorem Ek:∀ {p:bY} {x:Str} {i:Int} (h:ua p x=some i),x∈NC p:=by iterate 4
 unfold ua at h;cases e:wf p x with
 | none=>rw [e] at h;cases h
 | some v=>
  obtain ⟨st,hm,hs⟩:=iK e;refine ey.mpr ⟨st,hm,?_⟩;obtain ⟨q,h1,h2⟩:=bi hs;rw [h1];split at h2
  ·rename_i k;exact congrArg some (eq_of_beq k)
  ·cases h2
noncomputable def LN:ag->Option (List Nat)
| .str s _=>some s.cps.toList
| _=>none
noncomputable def K8:ag->Option Int
| .int i _=>some i
| _=>none
noncomputable def Pf:ag->Str
| .str s _=>s
| _=>⟨#[]⟩
noncomputable def TR (o:Option Int) (f:Option DictEntry):Prop:=match o with
| none=>f=none
| some i=>∃ e t,f=some e/\e.val= .int i t
theorem Fq:∀ (l:List DictEntry) (T:List (List Nat×Int)),(l.map fun e=>(LN e.key,K8 e.val))=(T.map fun p=>(some p.1,some p.2))->∀ x:List Nat,TR (T.lookup x) (l.find? fun e=>j4 ⟨x.toArray⟩ e.key):=by iterate 0
 intro l;induction l with
 | nil=>intro T h x;cases T with | nil=>exact rfl | cons _ _=>simp at h
 | cons e l Qj=>
  intro T h x;cases T with
  | nil=>simp at h
  | cons p T=>
   simp only [aB,gy,cR] at h;obtain ⟨⟨h1,h2⟩,h3⟩:=h;have ih:=Qj T h3 x;obtain ⟨k,i⟩:=p;have hk:∃ t,e.key= .str ⟨k.toArray⟩ t:=by cases q:e.key<;>rw [q] at h1<;>first | cases h1;done | exact ⟨_,by rw [<-(show _=k from bh h1)]⟩
   obtain ⟨t,hk⟩:=hk;have hv:∃ t,e.val= .int i t:=by cases q:e.val<;>rw [q] at h2<;>first | cases h2;done | exact ⟨_,by rw [<-(show _=i from bh h2)]⟩
   obtain ⟨tv,hv⟩:=hv;rw [aY,List.find?_cons,hk];have e1:j4 ⟨x.toArray⟩ (.str ⟨k.toArray⟩ t)=(x==k):=by show ((⟨k.toArray⟩:Str)==⟨x.toArray⟩)=(x==k);rw [c8];simp only [beq_iff_eq,Str.mk.injEq];exact ⟨fun q=>by rw [<-lr (as:=x),<-q],fun q=>by rw [q]⟩
   rw [e1];cases hx:x==k with | true=>exact ⟨e,tv,rfl,hv⟩ | false=>exact ih
structure Ck (K:Frag) (w:jl):Prop where
 n0:MB K 0=true
 n2:MB K 2=true
 n3:MB K 3=true
 nc:MB K 114=true
 sys:(K.lookup 1).isSome=true
 lim:(RG K 2 "sys.recursionlimit").isNone=true
 top:((NC P0).all fun x=>match ua P0 x with
  | some i=>(match RG K 3 x with
   | some (.int j _)=>i==j
   | _=>false)
  | none=>true)=true
 tab:RG K 3 "EXACT_TOKEN_TYPES" =some (.ref 120)
 cls:RG K 3 "_netrclex" =some (.ref 115)
 m1:(("int" :Str)::"reversed" ::(QM++ro)).map (RG K 3)=(("int" :Str)::"reversed" ::(QM++ro)).map fun _=>none
 b1:(("int" :Str)::"reversed" ::ro).map (RG K 0)=(("int" :Str)::"reversed" ::ro).map fun x=>some (.type x.toString)
 b2:QM.map (RG K 0)=QM.map fun x=>some (.builtin x.toString)
 fs:((yt P0.main.body).all fun f=>match o8 P0 f with
  | some fn=>Ou K (RG K 3 f) fn.params
  | none=>true)=true
 fe:((yt P0.main.body).map fun f=>IZ K (RG K 3 f))=(yt P0.main.body).map fun f=>(o8 P0 f).map fun fn=>(.stmts fn.body,fn.scope)
 ms:((yt (pu P0 "_netrclex")).all fun f=>match wm (pu P0 "_netrclex") f with
  | some fn=>Ou K (RG K 114 f) fn.params
  | none=>true)=true
 me:((yt (pu P0 "_netrclex")).map fun f=>IZ K (RG K 114 f))=(yt (pu P0 "_netrclex")).map fun f=>(wm (pu P0 "_netrclex") f).map fun fn=>(.stmts fn.body,fn.scope)
 co:(K.lookup 115).isSome=true/\∃ nm q bs sn sub col dd k0 k1 k2 k3 k5,rO K 115=hZ nm q 115 114 bs [.type "object"] true sn sub false col dd k0 k1 k2 k3 k5 "object.__new__"
 cn:Rf.map (RG K 114)=Rf.map fun _=>none
 to:(K.lookup 120).isSome=true/\(rO K 120).ExactDict/\GY (rO K 120).data=true
 tk:((HW K 120).toList.map fun e=>(LN e.key,K8 e.val))=(qm P0).map fun p=>(some p.1,some p.2)
 th:((HW K 120).toList.map fun e=>e.hash)=(HW K 120).toList.map fun e=>hashStr w (Pf e.key)
section
variable {K:Frag} {w:jl} {h:Heap} {os:kD}
theorem sj:∀ {α β:Type} {f g:α->β},∀ {l:List α},l.map f=l.map g->∀ x∈l,f x=g x:=by iterate 4 exact (fun h x hx=>List.map_inj_left.mp h x hx)
theorem E3:((yt P0.main.body).all fun f=>match o8 P0 f with
  | some fn=>fn.scope.isGenerator ||wl fn
  | none=>true)=true:=by decide+kernel
theorem Ga:((yt (pu P0 "_netrclex")).all fun f=>match wm (pu P0 "_netrclex") f with
  | some fn=>wl fn
  | none=>true)=true:=by decide+kernel
theorem IM:∀ (KX:K.In h) (C:Ck K w),∀ h':Heap,(∀ a o,F0 (cx w h os) a=some o->h'.get? a=some o)->yc (cx w h os) h':=by iterate 2
 intro h' hl;refine ⟨rfl,fun k=>findBy (gu P0 w).is (HW K 120) k,?_,fun x=>?_⟩
 ·have hf:=wt (w:=w) (os:=os) KX C.to.1 (by decide);have h3:=C.to.2.2;have Vy:=C.th;have htk:=C.tk;unfold HW at Vy htk ⊢;cases hd:(rO K 120).data<;>rw [hd] at h3<;>try cases h3
  rename_i es ep;rw [hd] at Vy htk;refine ⟨_,es,ep,hl _ _ hf,C.to.2.1,hd,fun e he=>?_,fun _=>rfl⟩;have he:=kT.mpr he;have h1:=sj Vy e he;have h2:(LN e.key,K8 e.val)∈(qm P0).map fun p=>(some p.1,some p.2):=by rw [<-htk];exact aH.mpr ⟨e,he,rfl⟩
  obtain ⟨p,_,hp⟩:=aH.mp h2;simp only [cR] at hp;have hk:∃ s t,e.key= .str s t:=by have Wh:=hp.1;cases q:e.key<;>rw [q] at Wh<;>first | cases Wh;done | exact ⟨_,_,rfl⟩
  obtain ⟨s,t,hk⟩:=hk;refine ⟨s,by rw [hk];show (s==s)=true;simp,?_⟩;rw [h1,hk];rfl
 ·have:=Fq _ _ C.tk x;have e:∀ k,findBy (gu P0 w).is (HW K 120) k=((HW K 120).toList.find? fun e=>j4 k e.key).map (·.val):=fun k=>by
   unfold findBy;rw [<-Array.find?_toList];rfl
  dsimp only;rw [e];cases q:(qm P0).lookup x with | none=>rw [q] at this;replace this:_=none:=this;dsimp only;rw [this];rfl | some i=>rw [q] at this;obtain ⟨e,t,h1,h2⟩:=this;exact ⟨t,by rw [h1,cY,h2]⟩
theorem Di:∀ {f:Str} {fn:Fn} (KX:K.In h) (C:Ck K w) (e:o8 P0 f=some fn),∃ a o fd,RG K 3 f=some (.ref a)/\F0 (cx w h os) a=some o/\o.data= .func fd/\KY K a=some fd/\fd.body= .stmts fn.body/\fd.scope=fn.scope/\fd.globals=bC/\fd.closure=[]/\fd.builtins=bU/\Qv (F0 (cx w h os)) fd.code fd.qualname/\
  ∀ vs:List ag,vs.length=fn.params.length->iD fd ⟨vs,[]⟩=pure (fn.params.zip vs):=by iterate 5
 have hm:=Cv e;have h1:=ak.mp C.fs f hm;rw [e] at h1;have h2:=sj C.fe f hm;rw [e] at h2;obtain ⟨a,o,fd,g1,g2,_,g4,g5,g6⟩:=Kp (w:=w) (os:=os) KX h1 h2;exact ⟨a,o,fd,g1,g2,g5,g4,g6⟩
theorem zZ:∀ {f:Str} {fn:Fn} {a:Addr} (KX:K.In h) (C:Ck K w) (e:o8 P0 f=some fn) (ha:RG K 3 f=some (.ref a)) (hg:fn.scope.isGenerator=false),FnAt (cx w h os) (F0 (cx w h os)) a fn:=by iterate 8 obtain ⟨a',o,fd,g1,g2,g3,_,g5⟩:=Di (os:=os) KX C e;rw [ha] at g1;cases g1;refine ⟨⟨o,fd,g2,g3,g5⟩,?_⟩;have:=ak.mp E3 f (Cv e);rw [e] at this;simpa [hg] using this
theorem Kv:∀ (KX:K.In h) (C:Ck K w),Fx (cx w h os):=by iterate 2
 exact {
  Ut:=IM KX C
  WA:=⟨_,wt KX C.sys (by decide)⟩
  SD:=⟨_,vJ KX C.n2 (by decide),dT.mp C.lim⟩
  glob:=by
   have hm:=fun x hx=>sj C.m1 x hx;refine ⟨RG K 3,RG K 0,vJ KX C.n3 (by decide),vJ KX C.n0 (by decide),fun x i e=>?_,C.tab,hm "int" (by simp),sj C.b1 "int" (by simp),fun x hx=>⟨hm x (by simp [hx]),sj C.b2 x hx⟩,fun x hx=>⟨hm x (by simp [hx]),sj C.b1 x (by simp [hx])⟩,hm "reversed" (by simp),sj C.b1 "reversed" (by simp),C.cls,fun f fn e=>?_⟩
   ·have:=ak.mp C.top x (Ek e);rw [e] at this;dsimp only at this;cases q:RG K 3 x with
    | none=>rw [q] at this;cases this
    | some v=>
     rw [q] at this;cases v<;>try cases this
     exact ⟨_,by rw [eq_of_beq this]⟩
   ·obtain ⟨a,_,_,g1,_⟩:=Di (os:=os) KX C e;exact ⟨a,g1,fun hg=>zZ KX C e g1 hg⟩}
theorem N4:∀ (KX:K.In h) (C:Ck K w),Kl (cx w h os):=by iterate 2
 exact {
  ex:=by
   refine ⟨114,RG K 114,fun h' hl=>⟨?_,(vJ (w:=w) (os:=os) KX C.nc (by decide)).ns hl⟩,fun x hx=>sj C.cn x hx,fun m fn e=>?_⟩
   ·obtain ⟨c1,nm,q,bs,sn,sub,col,dd,k0,k1,k2,k3,k5,c2⟩:=C.co;have hf:=wt (w:=w) (os:=os) KX c1 (by decide);exact ⟨nm,q,bs,sn,sub,col,dd,k0,k1,k2,k3,k5,by have:=hl _ _ hf;rw [c2] at this;exact this⟩
   ·have hm:=CI e;have h1:=ak.mp C.ms m hm;rw [e] at h1;have h2:=sj C.me m hm;rw [e] at h2;obtain ⟨a,o,fd,g1,g2,g3,_,g5,g6⟩:=Kp (w:=w) (os:=os) KX h1 h2;have h3:=ak.mp Ga m hm;rw [e] at h3;exact ⟨a,o,g1,⟨⟨o,fd,g2,g5,g6⟩,h3⟩,g2,g3⟩}
end
noncomputable def MD (K:Frag) (c P:Addr):Bool:=(K.lookup c).isSome&&!Rb.contains c&&c !=P&&(match (rO K c).cls with | .type t=>t=="code" | _=>false)&&(match (rO K c).data with
| .fields vs=>(match (vs[11]? :Option ag) with | some (.ref p)=>p==P | _=>false)&&(match vs.getD 18 .none with | .str _ _=>true | _=>false)&&(match vs.getD 7 .none with | .int _ _=>true | _=>false)&&(match vs.getD 9 .none with | .bool _=>true | _=>false)&&(match vs.getD 10 .none with | .int _ _=>true | _=>false)
| _=>false)
theorem Jn:∀ {v:ag} (h:(match v with | .str _ _=>true | _=>false)=true),∃ s t,v= .str s t:=by iterate 2 cases v<;>first | cases h;done | exact ⟨_,_,rfl⟩
theorem CO:∀ {v:ag} (h:(match v with | .int _ _=>true | _=>false)=true),∃ s t,v= .int s t:=by iterate 2 cases v<;>first | cases h;done | exact ⟨_,_,rfl⟩
theorem FV:∀ {v:ag} (h:(match v with | .bool _=>true | _=>false)=true),∃ s,v= .bool s:=by iterate 2 cases v<;>first | cases h;done | exact ⟨_,rfl⟩
noncomputable def OT (K:Frag):Bool:=match zO (RG K 3 "__builtins__") with
| some bm=>bm !=bU&&bm !=bC&&!Rb.contains bm&&(K.lookup bm).isSome&&(match (rO K bm).cls with | .type t=>t=="module" | _=>false)&&(rO K bm).dict==some bU&&(match (rO K bm).data with | .plain=>true | _=>false)
| none=>false
noncomputable def ME (K:Frag) (f:Str) (c:Addr):Bool:=match zO (RG K 3 f) with
| some a=>(match KY K a with
  | some fd=>(match fd.code with | .ref q=>q==c | _=>false)&&fd.qualname==f
  | none=>false)
| none=>false
structure Ck2 (K:Frag) (w:jl):Prop extends Ck K w where
 h1:MD K 55 51=true
 h2:MD K 62 58=true
 h3:MD K 176 172=true
 bm:OT K=true
 t1:ME K "_int2digits" 55=true
 t2:ME K "_digits2int" 62=true
 t3:ME K "_law_lexer" 176=true
section
variable {K:Frag} {w:jl} {h:Heap} {os:kD}
theorem On:∀ {v:Option ag} {a:Addr} (hv:zO v=some a),v=some (.ref a):=by iterate 3
 cases v with
 | none=>cases hv
 | some u=>cases u<;>first | (cases hv;rfl) | cases hv
theorem CB:∀ {c P:Addr} (KX:K.In h) (e:MD K c P=true),∀ h',HV (cx w h os) h'->lT h' c P:=by iterate 4
 intro h' hl;unfold MD at e;simp -iota only [ai,bG] at e;obtain ⟨⟨⟨⟨e1,e2⟩,e3⟩,e4⟩,e5⟩:=e;have hf:=hl _ _ (wt (w:=w) (os:=os) KX e1 e2);cases UL:(rO K c).data<;>rw [UL] at e5<;>try cases e5
 rename_i vs;dsimp only at e5;simp -iota only [ai] at e5;obtain ⟨⟨⟨⟨a1,a2⟩,a3⟩,a4⟩,a5⟩:=e5;have hp:(vs[11]? :Option ag)=some (.ref P):=by
  cases q:(vs[11]? :Option ag) with
  | none=>rw [q] at a1;cases a1
  | some u=>
   rw [q] at a1;cases u<;>try cases a1
   rw [eq_of_beq a1]
 obtain ⟨f1,t1,b1⟩:=Jn a2;obtain ⟨f2,t2,b2⟩:=CO a3;obtain ⟨f3,b3⟩:=FV a4;obtain ⟨f4,t4,b4⟩:=CO a5;have hc:(rO K c).cls= .type "code" :=by
  revert e4;cases (rO K c).cls<;>intro e4<;>try cases e4
  rw [eq_of_beq e4]
 refine ⟨_,vs,f1,t1,f2,t2,f3,f4,t4,hf,hc,UL,hp,?_,b1,b2,b3,b4,by simpa using e3⟩;rw [Array.getD_eq_getD_getElem?,hp];rfl
theorem NA:∀ {P:Addr} (KX:K.In h) (e:OT K=true) (hP:Rb.contains P=true),∀ h',HV (cx w h os) h'->h'.BuiltinsAt (RG K 3) P:=by iterate 4
 intro h' hl;unfold OT at e;cases hb:zO (RG K 3 "__builtins__") with
 | none=>rw [hb] at e;cases e
 | some bm=>
  rw [hb] at e;dsimp only at e;simp -iota only [ai,bG] at e;obtain ⟨⟨⟨⟨⟨⟨e1,e2⟩,e3⟩,e4⟩,e5⟩,e6⟩,e7⟩:=e;have hf:=hl _ _ (wt (w:=w) (os:=os) KX e4 e3);have hc:(rO K bm).cls= .type "module" :=by
   revert e5;cases (rO K bm).cls<;>intro e5<;>try cases e5
   rw [eq_of_beq e5]
  have hd:(rO K bm).data= .plain:=by revert e7;cases (rO K bm).data<;>intro e7<;>first | rfl | cases e7
  exact ⟨bm,_,On hb,by simpa using e1,by simpa using e2,(fun q=>by rw [q,hP] at e3;cases e3),hf,hc,eq_of_beq e6,hd⟩
theorem Nh:∀ (KX:K.In h) (C:Ck2 K w),Tx (cx w h os):=by iterate 2
 exact {
  inj:=fun T hT T' VZ e=>by simp only [cx,aq,aO,or_false] at hT VZ;rcases hT with rfl | rfl | rfl<;>rcases VZ with rfl | rfl | rfl<;>first | rfl | cases e
  hd:=fun T hT h' hl=>by
   simp only [cx,aq,aO,or_false] at hT;rcases hT with rfl | rfl | rfl
   ·exact CB KX C.h1 h' hl
   ·exact CB KX C.h2 h' hl
   ·exact CB KX C.h3 h' hl
  bi:=⟨RG K 3,vJ KX C.n3 (by decide),fun T hT h' hl=>by simp only [cx,aq,aO,or_false] at hT;rcases hT with rfl | rfl | rfl<;>exact NA KX C.bm (by decide) h' hl⟩
  mn:=fun T hT=>by simp only [cx,aq,aO,or_false] at hT;rcases hT with rfl | rfl | rfl<;>decide}
theorem Hv:∀ {f q:Str} {pos:Pos} {a c:Addr} {fn:Fn} (KX:K.In h) (C:Ck K w) (hT:(⟨a,c,pos,q⟩:Tj)∈(cx w h os).tabs) (ht:ME K f c=true) (e:o8 P0 f=some fn) (hg:fn.scope.isGenerator=false),xL (cx w h os) f q pos:=by iterate 12
 obtain ⟨a',o,fd,g1,g2,g3,g4,g5⟩:=Di (os:=os) KX C e;refine ⟨_,hT,rfl,rfl,RG K 3,RG K 0,a',o,fd,vJ KX C.n3 (by decide),vJ KX C.n0 (by decide),g1,g2,g3,?_,?_,fun XY e'=>?_⟩
 ·unfold ME at ht;rw [g1] at ht;simp only [zO,g4,ai] at ht;have h1:=ht.1;split at h1
  ·rename_i p hp;rw [hp,eq_of_beq h1]
  ·cases h1
 ·unfold ME at ht;rw [g1] at ht;simp only [zO,g4,ai] at ht;exact eq_of_beq ht.2
 ·rw [e] at e';cases e';exact zZ KX C e g1 hg
theorem MY:∀ (KX:K.In h) (C:Ck2 K w),Mx (cx w h os):=by iterate 2
 exact {
  fx:=Kv KX C.toCk
  kl:=N4 KX C.toCk
  tx:=Nh KX C
  gf:=by obtain ⟨a,o,fd,g1,g2,g3,_,g5,g6,g7,g8,g9,g10,ZU⟩:=Di (os:=os) KX C.toCk F1;exact ⟨RG K 3,RG K 0,a,o,fd,vJ KX C.n3 (by decide),vJ KX C.n0 (by decide),g1,g2,g3,g5,g6,g7,g8,g9,g10,fun v=>ZU [v] rfl⟩
  tl:=Hv KX C.toCk (a:=172) (c:=176) (by simp [cx]) C.t3 (fn:=(o8 P0 "_law_lexer").getD ⟨[],.mk .function [] false false [],[]⟩) (by rfl') (by rfl')
  td:=Hv KX C.toCk (a:=58) (c:=62) (by simp [cx]) C.t2 (fn:=(o8 P0 "_digits2int").getD ⟨[],.mk .function [] false false [],[]⟩) (by rfl') (by rfl')
  ti:=Hv KX C.toCk (a:=51) (c:=55) (by simp [cx]) C.t1 (fn:=(o8 P0 "_int2digits").getD ⟨[],.mk .function [] false false [],[]⟩) (by rfl') (by rfl')}
end
structure Ck3 (K:Frag) (w:jl):Prop extends Ck2 K w where
 t0:(Rb.map fun a=>K.lookup a)=Rb.map fun _=>some (tO #[])
 law:∃ fa,RG K 3 "law" =some (.ref fa)
noncomputable def SE:Fn:=⟨["script"],fsc P0 "law",fb P0 "law"⟩
section
variable {K:Frag} {w:jl}
theorem Bz:∀ {h:Heap} {a:Addr} (KX:K.In h) (C:Ck3 K w) (ha:a∈Rb),h.get? a=some (tO #[]):=by iterate 5 exact (KX a _ (sj C.t0 a ha))
theorem K1:∀ {s:ah} (KX:K.In s.heap) (C:Ck3 K w) (hg:s.gens=#[]),Qn (cx w s.heap s.os) ⟨F0 (cx w s.heap s.os),[],[],[]⟩ s:=by iterate 4
 exact {
  sub:=fun a o e=>by
   dsimp only at e;unfold F0 at e;split at e
   ·cases e
   ·exact e
  base:=fun a o hn e=>by show F0 _ a=_;unfold F0;rw [if_neg hn];exact e
  Ry:=fun a ha=>by show F0 _ a=_;unfold F0;rw [if_pos ha]
  low:=fun a o e=>⟨o,e⟩
  tab:=fun T hT=> .inl (by refine Bz KX C ?_;simp only [cx,aq,aO,or_false] at hT;rcases hT with rfl | rfl | rfl<;>decide)
  Q9:=rfl
  Rh:=rfl
  obj:=fun i mo a fp e _ _=>by simp at e
  nodup:=by simp
  RD:=fun a ha=>by simp at ha
  bare:= .of_eq hg
  os:=rfl}
theorem Je:∀ {J:Cx} {F:PM} {as:List Addr} {vs:List ag} {zs:List Int} (h:IntsAre vs zs),Qo J F as (zs.map .int) vs:=by iterate 6 induction h with | nil=>exact (rfl:([]:List ag)=[]) | cons n t _ ih=>rw [aB];dsimp only [Qo];exact ⟨_,_,rfl,by dsimp only [Rd];exact ⟨t,rfl⟩,ih⟩
theorem L8:o8 P0 "law" =some SE:=by iterate 0 rfl'
theorem HX:∀ {s s':ah} (KX:K.In s.heap) (C:Ck3 K w) {W':Wd} (t:Qk (cx w s.heap s.os) [] ⟨F0 (cx w s.heap s.os),[],[],[]⟩ s W' s'),OldK s.heap s'.heap:=by iterate 6
 exact {
  old:=fun b o e=>by
   by_cases hb:b∈Rb
   ·have h0:=Bz KX C hb;rw [h0] at e;cases e;have Q6:isCodeTable s.heap b:=by
     have hh:∃ c,MD K c b=true:=by
      simp only [Rb,aq,aO,or_false] at hb;rcases hb with rfl | rfl | rfl
      ·exact ⟨_,C.h1⟩
      ·exact ⟨_,C.h2⟩
      ·exact ⟨_,C.h3⟩
     obtain ⟨c,hc⟩:=hh;obtain ⟨o,vs,_,_,_,_,_,_,_,e1,e2,e3,e4,_⟩:=CB (w:=w) (os:=s.os) KX hc s.heap (fun a o e=>by
      unfold F0 at e;split at e
      ·cases e
      ·exact e)
     exact ⟨c,o,vs,e1,e2,e3,e4⟩
    have hT:∃ T∈(cx w s.heap s.os).tabs,T.a=b:=by
     simp only [Rb,aq,aO,or_false] at hb;rcases hb with rfl | rfl | rfl
     ·exact ⟨_,.head _,rfl⟩
     ·exact ⟨_,.tail _ (.head _),rfl⟩
     ·exact ⟨_,.tail _ (.tail _ (.head _)),rfl⟩
    obtain ⟨T,hT,rfl⟩:=hT;rcases t.ok.tab T hT with h1 | ⟨c',oc,vs,tk,h1,_⟩
    ·exact .inl h1
    ·exact .inr (.inl ⟨Q6,rfl,_,_,rfl,h1⟩)
   ·exact .inl (t.keep b o hb (by simp) (by simp) e)
  there:=t.there}
theorem U1:∀ {s:ah} {a:Addr} {vs:List ag} {zs:List Int} {o:Obj} {nn:Nat} {n:Nat} {A:bf} {fa:Addr} (KX:K.In s.heap) (C:Ck3 K w) (hg:s.gens=#[]) (ho:s.heap.get? a=some o) (h1:o.cls= .type "list") (h2:o.dict=none) (h3:o.data= .seq vs.toArray nn) (hI:IntsAre vs zs) (hz:zs.length<=63) (hA:Qs (n+1) A) (Sl:∃ st g2,ceSs P0 n SE.scope ⟨[("script",.lst (zs.map .int))],[],none⟩ SE.body []=some (.ret (.bool true),st,g2)) (hf:RG K 3 "law" =some (.ref fa)),aD (aC P0 w) A (call (.ref fa) [.ref a]) (fun v s'=>v= .bool true/\OldK s.heap s'.heap/\s'.os=s.os/\ij s'.gens) (fun _ _=>False) s:=by iterate 21
 have hw:=K1 KX C hg;have Qz:FnAt (cx w s.heap s.os) (F0 (cx w s.heap s.os)) fa SE:=zZ KX C.toCk2.toCk L8 hf (by rfl');obtain ⟨st,g2,Sl⟩:=Sl;have hnt:a∉(cx w s.heap s.os).T:=fun hm=>by have h0:=Bz KX C (a:=a) hm;rw [ho] at h0;cases h0;cases h1
 have hd:Qo (cx w s.heap s.os) (F0 (cx w s.heap s.os)) [] [.lst (zs.map .int)] [.ref a]:=by dsimp only [Qo];refine ⟨_,_,rfl,?_,rfl⟩;dsimp only [Rd];refine ⟨by rw [aG];unfold lim;omega,a,vs,rfl,⟨o,nn,?_,h1,h2,h3⟩,Je hI⟩;unfold F0;rw [if_neg hnt];exact ho
 refine sr (Kv KX C.toCk2.toCk) Qz rfl (by have:=hA.2.1;omega) hd hw fun env Qg R=>?_;refine af (H0 (fl:= .next) (MY KX C.toCk2) (fn:=SE) (ds:=[.lst (zs.map .int)]) Sl rfl R hA.deeper) (fun f s' z0=>?_) fun _ _ f=>f;obtain ⟨hf,W',t⟩:=z0;subst hf;exact ⟨rfl,HX KX C t,t.ok.os,t.ok.bare⟩
end
theorem WE:∀ {zs:List Int} (hz:zs.length<=63),∃ st g2,ceSs P0 273 SE.scope ⟨[("script",.lst (zs.map .int))],[],none⟩ SE.body []=some (.ret (.bool true),st,g2):=by iterate 2 exact (Eg (m:=0) hz)
theorem UD:Qs (273+1) callerA:=by iterate 0 exact (⟨rfl,by decide,by decide⟩)
noncomputable def Mz (o:Obj):mv:=match o.data with
| .cls c=>c
| _=>{name:=⟨#[]⟩,bases:=[],mro:=[],ns:=0}
noncomputable def Og (o:Obj) (i:Nat):Option ag:=o.slots.getD i none
theorem Za:∀ {K:Frag} (e1:(K.lookup 115).isSome=true) (e:rO K 115=hZ (Mz (rO K 115)).name (Mz (rO K 115)).qualname 115 114 (Mz (rO K 115)).bases [.type "object"] true (Mz (rO K 115)).slotNames (Mz (rO K 115)).subclasses false (Mz (rO K 115)).collection (rO K 115).dict (Og (rO K 115) 0) (Og (rO K 115) 1) (Og (rO K 115) 2) (Og (rO K 115) 3) (Og (rO K 115) 5) "object.__new__"),(K.lookup 115).isSome=true/\∃ nm q bs sn sub col dd k0 k1 k2 k3 k5,rO K 115=hZ nm q 115 114 bs [.type "object"] true sn sub false col dd k0 k1 k2 k3 k5 "object.__new__" :=by iterate 3 exact (⟨e1,_,_,_,_,_,_,_,_,_,_,_,_,e⟩)
end MP.Lake
open PySem PySem.W PyProof.Rows
open PySem.W.X PySem.W.ZRun PySem.W
set_option maxRecDepth 100000 in
set_option maxHeartbeats 0 in
theorem PySem.Challenge.cw_uk0012_01_holds : PySem.Challenge.rw_uk0012_01.Holds := by
 run_tac Cz.b 0
 run_tac do
  let pre:=`PySem.Challenge.cw_uk0012_01_holds
  let mut m <-jw.get
  m:=m.insert ``PySem.Challenge.pw_uk0012_01 none
  for b in ["view","sts","heap","zo","tree","o"] do
   for i in [0:2000] do
    m:=m.insert (pre.str s!"{b}_{i}") none
  jw.set m
 w_on;o_law
 run_tac do
  let ty <-Lean.Meta.whnfR (<-Lean.instantiateMVars (<-Lean.Elab.Tactic.getMainTarget))
  let r <-if ty.isAppOfArity ``OpenRowC.Holds 1 then Lean.Meta.mkAppM ``RowC.toRowW #[<-Lean.Meta.mkAppM ``OpenRowC.toRowC #[ty.appArg!]] else Lean.Meta.mkAppM ``OpenRow.toRowW #[ty.appArg!]
  let (K,as) <-xMkFrag (<-progOf (<-Lean.Meta.whnfR (<-Lean.Meta.mkAppM ``RowW.prog #[r]))) (some (<-strSlow (<-Lean.Meta.mkAppM ``RowW.name #[r])).toString)
  let (k,a):=(<-Lean.Elab.Term.exprToSyntax K,<-Lean.Elab.Term.exprToSyntax as)
  Lean.logInfo m!"K {K}"
  zHead (<-`(fun s=>($a).map s.heap.get?)) (<-`(fun w=>($k w.params).map fun p=>some p.2))
 (case hw=>w_witness2);k_fill;intro w Qp Qg mg mb G y fa o pm cd doc dV kV ho hd RC hD Ux hg args vals as L WU aa0 hrd Zw hlo
 have KX:oi (PySem.Challenge.cw_uk0012_01_holds.heap_40 w.params) Qg.heap:=InK.keeps w _ _ (InK.of (K:=PySem.Challenge.cw_uk0012_01_holds.heap_40) (fun _=>rfl) w Qp y) (Laid.keeps L);refine Ground.open G ?_;intro T B D TE TW;wrow_args WU aa0 hrd Zw hlo;x_fa T KX Ux;all_lens;rename_i zs hs0 acP hL1 Zz VQ as1 as2 ad vs as3 hLs ra w1 r0 hr2 ZO VX hI hb;have hz:zs.length<=63:=by omega
 have Tp:=PySem.W.X.script_obj L hLs;have ck:MP.Lake.Ck (PySem.Challenge.cw_uk0012_01_holds.heap_40 w.params) w:={
  n0:=by rfl',n2:=by rfl',n3:=by rfl',nc:=by rfl',sys:=by rfl',lim:=by rfl',top:=by rfl',tab:=by rfl',cls:=by rfl',
  m1:=by rfl',b1:=by rfl',b2:=by rfl',fs:=by rfl',fe:=by rfl',ms:=by rfl',me:=by rfl',co:=MP.Lake.Za (by rfl') (by rfl'),cn:=by rfl',
  to:=⟨by rfl',⟨by rfl',by rfl',by rfl'⟩,by rfl'⟩,tk:=by rfl',th:=by rfl'}
 have ck2:MP.Lake.Ck2 (PySem.Challenge.cw_uk0012_01_holds.heap_40 w.params) w:={ck with h1:=by rfl',h2:=by rfl',h3:=by rfl',bm:=by rfl',t1:=by rfl',t2:=by rfl',t3:=by rfl'}
 have Yy:MP.Lake.RG (PySem.Challenge.cw_uk0012_01_holds.heap_40 w.params) 3 "law" =some (.ref 236):=by rfl'
 have ck3:MP.Lake.Ck3 (PySem.Challenge.cw_uk0012_01_holds.heap_40 w.params) w:={ck2 with t0:=by rfl',law:=⟨236,Yy⟩}
 have go:=MP.Lake.U1 KX ck3 hg Tp rfl rfl rfl hI hz MP.Lake.UD (MP.Lake.WE hz) Yy;refine af go (fun v s' ⟨hv,hK,hos,Up⟩=>?_) (fun _ _ f=>f.elim);subst hv;exact ⟨.inl ⟨_,_,[],rfl,(fun _=>by first | rfl | rfl' | with_unfolding_all rfl),ReadsW.bool true,(by first | rfl | rfl' | with_unfolding_all rfl),fun _=>⟨List.nodup_nil,fun _ hm=>(nomatch hm)⟩⟩,hK,hos,Up⟩;run_tac Cz.e
