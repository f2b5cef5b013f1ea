import PyProof.Rows.All
import Wide.All
import OpenK.AllK
import KE.BitLaws
import PyProof.GenQ
import PyProof.Draws
import PyProof.EnumMake
import PyProof.TableCode
import Wide.FinOn
import Lean
import PySem.Challenge.RW_uk0012_01
set_option Elab.async false
set_option linter.all false
set_option genSizeOf false
set_option compiler.reuse false
set_option compiler.extract_closed false
set_option backward.match.sparseCases false
set_option bootstrap.genMatcherCode false
set_option genCtorIdx false
set_option maxRecDepth 4000
set_option maxHeartbeats 4000000
open Option renaming none->aa, map_eq_some_iff->ba, bind_some->bz, isSome_iff_exists->b6, map_some->cY, isNone_iff_eq_none->dT, bind_eq_some_iff->gj, getD_some->gw, getD_none->gx, isSome_none->iq
open PySem renaming wpAny_bind->ae, wpAny_mono->af, Value->ag, Shared->ah, wpAny_execs_cons->ao, wpAny_pure->ay, model->aC, wpAny->aD, wpAny_items_cons->aR, wpAny_execs_nil->aW, Scope->aX, Around->bf, wpAny_Assign_Name->bj, builtinLookup_eq_fast->bp, wpAny_Name->bq, wpAny_standAt->bt, wpAny_holding->bu, mainGlobals->bC, wpAny_Call_ofName->bH, typeLookup->bI, typeLookup_type->bM, wpAny_Constant_int->bO, codeAny->bQ, PlainL->bS, builtinsNs->bU, Program->bY, wpAny_Return_some->cm, Seg->cq, recursionLimit->cw, wpAny_Call_method_late->cA, seg_execs_nil->cC, seg_execs_cons->cE, letOwnedTupleGo->cH, wpAny_Constant_str->cK, seg_bind_wrap->cO, codeAny_mono->cP, wpAny_assign_Name->cQ, wpAny_typeLookup_exc->dg, GenState->di, wpAny_newObj_type->dj, wpAny_callSpecial?_slot->dv, sizeLine->dw, Arguments->dD, wpAny_Expr_any->dE, wpAny_isTrue_value->dP, wpAny_loadPart'->dW, wpAny_field->dX, theTreesLotGoes->dY, wpAny_loadPart_at->d8, wpAny_call_entry->eh, pyNext->eF, methodCall->eG, starEach->eL, spliced->eM, NameKind->eN, FuncData->eO, wpAny_truthy_bool->eU, wpAny_call->eV, sliceBounds->eW, closureFor->eX, callEnvC->fc, wpAny_storeName_local->fh, wpAny_newFunctionEnv->fA, wpAny_attempt->fB, wpAny_If->fC, methodCallPos->fD, wpAny_specialOf->f9, wpAny_of_eq->gb, wpAny_Constant_bool->gc, execs->gg, strKind->gu, evalPart_none_step->gz, wpAny_getItem_list_slice->gS, wpAny_List->gU, storeName->gV, noteFrame->gW, foldedSetIterable->gX, Within->gY, wpAny_BinOp->hH, strIterType->hW, excClassObj->hZ, Builtin->ie, wpAny_updateSeq->iu, cellsFrom->iw, Result->iy, sysModules->iB, call_meets->iC, bindArgs->iD, Operator->iE, methodCallForm->iL, firstArgMember->iM, wpAny_setField_rec->je, wpAny_getItem_list->jf, swapsWith->jg, list_append_plainL->ji, arm_eval_Call->jj, arm_eval_Attribute->jk, World->jl, Comprehension->js, plainObj_wpAny_Assign_Attribute->jG, isTrue->jT, codeAny_loop->jU, compTurn->kf, wpAny_noted->kq, valueAt->kr, unpackItems->ku, standAt->ky, pyIter->kz, interactive->kA, handedOut->kB, backTo->kC, OsState->kD, wpAny_rule->ll, sliceRange->lq, wpAny_onRaise->lE, swappedStores->lF, keeperOf->lG, holding->lH, field->lI, comprehension->lJ, wpAny_pyNext_list_item->lP, wpAny_Assign_Subscript->lQ, meets_dict_get_default->lR, codeAny_compStart_list->lS, wpAny_pyNext_list_end->l7, wpAny_isTrue_Compare1->ma, wpAny_For->md, stored->mf, seqIndex?->mh, codeAmong->mi, cLine->mj, ClassData->mv, wpAny_pyIter_revIter->mw, wpAny_AugAssign_Name->mx, codeAny_call_builtin->my, wpAny_load'->mI, wpAny_isTrue_BoolOp->mJ, wpAny_Constant_none->mK, slicePicked->mL, setGen_self->mM, getItem->mO, getAttr->mP, codeAny_forLoop_any->mQ, wordsOf->mR, rawInt->m9, newEnv->ng, evalPart_some_step->nh, Protocol->nj, wpAny_truthy_list->nA, wpAny_pyIter_list->nB, splitAtGen->nE, slot_list_setitem->nF, qualnameIn->nG, wpAny_isInstance->nR, wpAny_getItem_of->nV, wpAny_eqBool_str->nW, entryFor_of_tree->nX, arm_assign_Tuple->nY
open Bool renaming and_eq_true->ai, false_ne_true->aJ, and_eq_true_iff->bx, not_eq_true'->bG, false_eq_true->bX, eq_iff_iff->c8, or_true->fM, or_eq_true->jD, false_and->j2, eq_false_iff->l5
open List renaming all_eq_true->aj, getElem?_eq_some_iff->ak, mem_cons->aq, getElem?_eq_getElem->au, mem_cons_of_mem->av, length_append->aw, map_cons->aB, mem_append_left->aE, length_map->aG, mem_map->aH, length_cons->aI, range->aN, not_mem_nil->aO, append_nil->aS, getElem?_append_right->aT, lookup_cons->aY, size_toArray->a7, nil_append->a9, cons_append->bc, getElem?_append_left->bg, getD_eq_getElem?_getD->bl, mem_append->bF, append_assoc->bK, mem_of_getElem?->bL, getElem?_reverse->bP, exists_cons_of_length_eq_add_one->bT, take_append_of_le_length->bZ, getElem_mem->b5, map_map->b7, getElem?_map->b8, reverse_reverse->cu, mem_range->cz, nodup_cons->cB, lookup->cG, getElem?_cons_succ->cL, mem_map_of_mem->cM, map_congr_left->cN, mem_append_right->cU, mem_of_mem_take->cZ, contains_eq_mem->c7, take_succ_cons->dh, mem_reverse->dm, map_reverse->dq, filterMap_map->dy, range_succ->dF, map_append->dG, length_filter_le->dH, idxOf_lt_length_of_mem->dJ, replicate->d6, length_reverse->ed, mem_singleton->ej, mem_filterMap->ey, all_cons->ez, isEmpty_iff->eR, eq_nil_of_length_eq_zero->eS, drop_append_of_le_length->eT, mem_of_mem_drop->eZ, length->fj, flatten_append->fk, filterMap_cons->fq, zip_cons_cons->fH, getElem?_drop->fJ, pairwise_iff_getElem->fW, drop_eq_getElem_cons->fY, take_add_one->gk, reverse_cons->gm, nodup_append->gn, getElem?_set->gq, lookup_eq_none_iff->gA, length_eq_zero_iff->gB, mem_flatten->gJ, length_take->gK, take_of_length_le->gN, range_succ_eq_map->gO, getElem?_set_self->gP, filter_eq_nil_iff->gQ, drop_eq_nil_of_le->gR, set_set->gZ, set_append_right->g0, of_mem_zip->hE, length_nil->hG, filter_append->iF, exists_of_findSome?_eq_some->iK, foldl_append->iN, flatMap_cons->iO, ext_getElem?->iP, map_nil->iU, all_map->iV, take_length->iY, mem_flatMap->iZ, length_drop->ja, filter_cons->jb, take_length_add_append->jz, tail->jA, foldl_cons->jB, all_append->jC, mem_or_eq_of_mem_set->jX, forIn_nil->jY, findIdx?_eq_none_iff->jZ, drop_zero->j0, length_filterMap_le->j9, sum_cons->kj, rec->km, map_take->kn, flatten_singleton->kF, take_append_drop->kK, singleton_append->kL, getElem?_eq_none->kM, filterMap_append->kN, contains_iff_mem->kO, casesOn->kP, mem_iff_getElem->kX, getElem_toArray->kY, getElem?_set_ne->kZ, toList_toArray->lr, replicate_succ->lu, getD_cons_zero->ly, append_toArray->lz, map_filterMap->lM, getElem_idxOf->lN, length_range->lV, flatten_cons->lW, any_eq_false->lX, isEmpty_nil->ml, getElem_set->mm, flatten_nil->mq, idxOf_cons->mE, head?_cons->mF, forIn_cons->mG, filter_map->mH, foldl_nil->mW, drop_left->mX, drop_drop->mY, map_drop->nq, map->nr, drop_nil->nu, any_cons->nv, all_nil->nK
open PySem.Heap renaming get?_push_size->ax, get?_push_of_some->aF, SameBut->bW, lt_size->dK, ExtBut->fw, get?_none_of_le->ik, size_push->m8
open Int renaming natCast_nonneg->az, fdiv->aL, toNat_natCast->aP, fmod->aQ, fmod_eq_emod_of_nonneg->aU, fdiv_eq_ediv_of_nonneg->aV, fmod_nonneg_of_pos->cy, fmod_lt_of_pos->cV, natCast_mul->da, natCast_pow->eD, eq_ofNat_of_zero_le->eE, mul_comm->eQ, natCast_add->fy, natAbs_natCast->fZ, mul_nonneg->ir, le_of_lt->jc, mul_add->jQ, le_refl->jR, add_assoc->kG, mul_zero->la, add_zero->lb, add_comm->lh, ediv_emod_unique->lD, pow_pos->lO, add_nonneg->nz, ofNat_sub->nM, mul_assoc->nN, zero_add->oE, ofNat_lt->oF, ofNat_le->oG, le_total->oH
open Nat renaming add_assoc->aK, reduceAdd->aM, pow_le_pow_right->a8, le_trans->bw, mul_comm->bE, le_refl->bN, mod_lt->bR, le_succ->bV, pow_pos->dk, lt_of_lt_of_le->dB, zero_add->dM, min_eq_left->dN, mod_two_eq_zero_or_one->dU, le_add_right->d9, div_add_mod->eB, add_sub_cancel_left->eC, div_eq_of_lt->eY, mul_le_mul_right->fg, zero_mul->fP, pow_succ->fQ, ne_of_lt->fR, le_of_lt->fU, le_mul_of_pos_right->gG, add_mul->gH, mod_eq_of_lt->gM, mul_add_div->ia, add_zero->ib, div_lt_of_lt_mul->il, log2_lt->iz, add_sub_cancel'->iA, lt_of_le_of_lt->iJ, lt_succ_of_lt->iT, sub_self->iW, ne_of_gt->iX, lt_succ_self->jq, zero_le->jL, rec->jM, pow_mul->jN, mul_add_mod->jO, mul_add->jP, lt_irrefl->kE, le_mul_of_pos_left->kI, div_div_eq_div_mul->kJ, le_of_ble_eq_true->kW, pow_add->lK, one_mul->lL, lt_or_gt_of_ne->lU, succ_ne_self->mB, not_lt_of_le->mC, lt_log2_self->mD, not_lt_zero->mV, mul_le_mul->nk, log2->nH
open PySem.Calls renaming spliced_nil->aZ, Name_function_global->bk, loadGlobal_builtin->j1, loadGlobal_global->ke
open Option.some renaming inj->bh, injEq->fi
open Array renaming length_toList->bA, getElem?_eq_getElem->cW, getElem?_toList->eP, toList_push->gh, toArray_toList->ig, getElem?_setIfInBounds->jd, eraseIdxIfInBounds->j3, mem_toList_iff->kT
open PySem.Str renaming ofString->bB, length->du
open PySem.Value renaming bool->bJ, int->dZ, ref->ef, str->ix, none->iI, isStrOf->j4
open ForInStep renaming yield->b9
open PySem.NameKind renaming free->cb, cell->fV
open PySem.W renaming kla_obj->cj, keeps_F->cX, callWith_of->c9, fnMade->dQ, FnAt->eH, Looks->jI, CodeHd->lT, fnX->mS
open PySem.F renaming plainAttrs_list->cI, slot_list_getitem->dR, slot_dict_get->eI, type_list_append->fE, slot_list_extend->fF, slot_list_append->fG, mro_object->gr, plainAttrs_str->gv, slot_list_pop->gE, slot_list_reverse->jm, slot_dict_getitem->jn, plainObj_entry_getattr_hooked->jr, type_list_extend->jx, slot_str_getitem->jy, plainAttrs_dict->jJ, args_dict_get_3->jK, slot_str_split->jV, entry_dict_get->jW, type_list_pop->j7, type_dict_get->j8, store_object->kh, lk_object_getattr->mu, slot_int_rmul->nO, lk_object_ga->oK
open Nat.succ renaming inj->cJ
open Prod.mk renaming injEq->cR
open PySem.Builtin.List renaming listTooLong->cT, listSubscript?->oL, listFitsIndex->oM
open Ne renaming symm->dz
open Function renaming comp->dC, comp_def->kQ
open PySem.Challenge renaming pw_uk0012_01->ee, rw_uk0012_01->mU
open PySem.Expr renaming Name->eA
open PySem.Heap.SameBut renaming update->eJ, refl->oJ
open Exists renaming intro->eK
open PySem.Heap.MapOf renaming typeIs->fu, noDict->kp
open PySem.GenOnly renaming setGen->fz
open PySem.Builtin.Str renaming spaceWords->fK
open PyProof.Rows renaming len_list->fO, tail_any->hO, AllBare->ij, subscriptTail->jh, neg_int->jo, Subscript_->jH, toList_beq->ou, lt_int->ox, le_int->oy, iadd_str->oz, ge_int->oA, divmod_int->oB, callWith_type1->oC, add_str->oD
open List.cons renaming injEq->gy
open PySem.Builtin.Int renaming intBits->gL
open PySem.Builtin.Generator renaming genWake->ic
open PySem.AutoSeq1 renaming idx_int->iG, sub_tuple_tuple->jv, sub_tuple_list->jE, sub_list_tuple->jF, sub_list_list->jS
open PySem.Builtin.ObjectAttr renaming copiedAttributeGuard->iH, Found->ki
open PySem.Builtin renaming divisionGoesByPylong->iQ, bitAnd->ju, bitNot->lY
open PySem.SeqAt.RcAt renaming lists_lengths->iR
open PySem.Obj renaming mapSeq->iS
open PySem.W.Fast renaming primed->jw
open PySem.SeqAt.EqAt renaming int_int->j5
open PySem.W.KF renaming slot_fn->j6
open PySem.Frame renaming guarded->kc
open Decidable renaming not_not->kH
open Eq renaming trans->kR
open Classical renaming choice->kS
open PySem.StrLaws renaming found_one->kU
open And renaming intro->lj
open PySem.Keeper renaming boundFrame->lC, machine->mr, frame->mZ
open PySem.Builtin.SmallTypes renaming stopIteration->lZ
open PySem.Sem renaming bind_eq_wrap->mz
open PySem.W.KeqHits renaming hit->mT
open PySem.Manifest renaming BuiltinType->ni
open PySem.Builtin.Range renaming small->nP, rangeSize->nQ
open PySem.SeqAt.RcNeAt renaming tuples->nZ, str_str->og, none_none->oh, lists_lengths->oi, lists->oj, int_int->om, bool_bool->oo
open PySem.SeqAt renaming EqAt->oq
open PySem.W.Frag renaming In->ot
namespace Mt
open Lean
def hd (e:Expr):String:=match e.getAppFn with
| .const (.str (.str _ a) b) _=>a++"." ++b
| .const (.str _ b) _=>b
| _=>""
def vQ (s l:String):Bool:=(l.splitOn " ").contains s
def cn (s:String):Expr:= .const s.toName []
def no {α:Type}:MetaM α:=throwError "no"
end Mt
namespace Cz
theorem MR (T:Type) (i:Nonempty T) (p:T->Prop):Nonempty {x:T // (∃ y,p y)->p x}:=(Classical.em (∃ y,p y)).elim (fun h=>h.elim fun y hy=>⟨⟨y,fun _=>hy⟩⟩) fun h=>i.elim fun x=>⟨⟨x,fun k=>(h k).elim⟩⟩
noncomputable def w1 (T:Type) (i:Nonempty T) (p:T->Prop):T:=(kS (MR T i p)).1
theorem ex1 (T:Type) (i:Nonempty T) (p:T->Prop) (h:∃ x,p x):p (w1 T i p):=(kS (MR T i p)).2 h
noncomputable def e1 (T:Type) (i:Nonempty T) (p:T->Prop):T:=w1 T i fun x=>¬ p x
theorem all1 (T:Type) (i:Nonempty T) (p:T->Prop) (h:p (e1 T i p)):∀ x,p x:=fun x=>Classical.byContradiction fun k=>ex1 T i (fun x=>¬ p x) ⟨x,k⟩ h
theorem rwg (T:Sort u) (m:T->Prop) (a b:T) (h:a=b) (x:m b):m a:=Eq.mpr (congrArg m h) x
theorem pr {A B:Type} (i:Nonempty A) (j:Nonempty B):Nonempty (A×B):=i.elim fun a=>j.elim fun b=>⟨(a,b)⟩
section
variable (T1:Type) (i1:Nonempty T1) (T2:Type) (i2:Nonempty T2) (T3:Type) (i3:Nonempty T3) (T4:Type) (i4:Nonempty T4) (T5:Type) (i5:Nonempty T5) (T6:Type) (i6:Nonempty T6) (T7:Type) (i7:Nonempty T7) (T8:Type) (i8:Nonempty T8) (T9:Type) (i9:Nonempty T9) (Sg:Type) (VO:Nonempty Sg) (Ts:Type) (XP:Nonempty Ts) (VK:Type) (i12:Nonempty VK)
def u2 (p:T1->T2->Prop) (x:T1×T2):Prop:=p x.1 x.2
noncomputable def e2 (p:T1->T2->Prop):T1×T2:=e1 _ (pr i1 i2) (u2 T1 T2 p)
theorem all2 (p:T1->T2->Prop) (h:u2 T1 T2 p (e2 T1 i1 T2 i2 p)):∀ x1 x2,p x1 x2:=fun x1 x2=>all1 _ (pr i1 i2) _ h (x1,x2)
theorem in2 (p:T1->T2->Prop) (x1:T1) (x2:T2) (h:p x1 x2):∃ x1 x2,p x1 x2:=⟨x1,⟨x2,h⟩⟩
theorem tu2 (p:T1->T2->Prop) (h:∃ x1 x2,p x1 x2):∃ x,u2 T1 T2 p x:=h.elim fun x1 h=>h.elim fun x2 h=>⟨(x1,x2),h⟩
noncomputable def w2 (p:T1->T2->Prop):T1×T2:=w1 _ (pr i1 i2) (u2 T1 T2 p)
theorem ex2 (p:T1->T2->Prop) (h:∃ x1 x2,p x1 x2):u2 T1 T2 p (w2 T1 i1 T2 i2 p):=ex1 _ (pr i1 i2) _ (tu2 T1 T2 p h)
def u3 (p:T1->T2->T3->Prop) (x:T1×T2×T3):Prop:=u2 T2 T3 (p x.1) x.2
noncomputable def e3 (p:T1->T2->T3->Prop):T1×T2×T3:=e1 _ (pr i1 (pr i2 i3)) (u3 T1 T2 T3 p)
theorem all3 (p:T1->T2->T3->Prop) (h:u3 T1 T2 T3 p (e3 T1 i1 T2 i2 T3 i3 p)):∀ x1 x2 x3,p x1 x2 x3:=fun x1 x2 x3=>all1 _ (pr i1 (pr i2 i3)) _ h (x1,x2,x3)
theorem in3 (p:T1->T2->T3->Prop) (x1:T1) (x2:T2) (x3:T3) (h:p x1 x2 x3):∃ x1 x2 x3,p x1 x2 x3:=⟨x1,in2 T2 T3 (p x1) x2 x3 h⟩
theorem tu3 (p:T1->T2->T3->Prop) (h:∃ x1 x2 x3,p x1 x2 x3):∃ x,u3 T1 T2 T3 p x:=h.elim fun x1 h=>(tu2 T2 T3 (p x1) h).elim fun y h=>⟨(x1,y),h⟩
noncomputable def w3 (p:T1->T2->T3->Prop):T1×T2×T3:=w1 _ (pr i1 (pr i2 i3)) (u3 T1 T2 T3 p)
theorem ex3 (p:T1->T2->T3->Prop) (h:∃ x1 x2 x3,p x1 x2 x3):u3 T1 T2 T3 p (w3 T1 i1 T2 i2 T3 i3 p):=ex1 _ (pr i1 (pr i2 i3)) _ (tu3 T1 T2 T3 p h)
def u4 (p:T1->T2->T3->T4->Prop) (x:T1×T2×T3×T4):Prop:=u3 T2 T3 T4 (p x.1) x.2
noncomputable def e4 (p:T1->T2->T3->T4->Prop):T1×T2×T3×T4:=e1 _ (pr i1 (pr i2 (pr i3 i4))) (u4 T1 T2 T3 T4 p)
theorem all4 (p:T1->T2->T3->T4->Prop) (h:u4 T1 T2 T3 T4 p (e4 T1 i1 T2 i2 T3 i3 T4 i4 p)):∀ x1 x2 x3 x4,p x1 x2 x3 x4:=fun x1 x2 x3 x4=>all1 _ (pr i1 (pr i2 (pr i3 i4))) _ h (x1,x2,x3,x4)
theorem in4 (p:T1->T2->T3->T4->Prop) (x1:T1) (x2:T2) (x3:T3) (x4:T4) (h:p x1 x2 x3 x4):∃ x1 x2 x3 x4,p x1 x2 x3 x4:=⟨x1,in3 T2 T3 T4 (p x1) x2 x3 x4 h⟩
theorem tu4 (p:T1->T2->T3->T4->Prop) (h:∃ x1 x2 x3 x4,p x1 x2 x3 x4):∃ x,u4 T1 T2 T3 T4 p x:=h.elim fun x1 h=>(tu3 T2 T3 T4 (p x1) h).elim fun y h=>⟨(x1,y),h⟩
noncomputable def w4 (p:T1->T2->T3->T4->Prop):T1×T2×T3×T4:=w1 _ (pr i1 (pr i2 (pr i3 i4))) (u4 T1 T2 T3 T4 p)
theorem ex4 (p:T1->T2->T3->T4->Prop) (h:∃ x1 x2 x3 x4,p x1 x2 x3 x4):u4 T1 T2 T3 T4 p (w4 T1 i1 T2 i2 T3 i3 T4 i4 p):=ex1 _ (pr i1 (pr i2 (pr i3 i4))) _ (tu4 T1 T2 T3 T4 p h)
def u5 (p:T1->T2->T3->T4->T5->Prop) (x:T1×T2×T3×T4×T5):Prop:=u4 T2 T3 T4 T5 (p x.1) x.2
noncomputable def e5 (p:T1->T2->T3->T4->T5->Prop):T1×T2×T3×T4×T5:=e1 _ (pr i1 (pr i2 (pr i3 (pr i4 i5)))) (u5 T1 T2 T3 T4 T5 p)
theorem all5 (p:T1->T2->T3->T4->T5->Prop) (h:u5 T1 T2 T3 T4 T5 p (e5 T1 i1 T2 i2 T3 i3 T4 i4 T5 i5 p)):∀ x1 x2 x3 x4 x5,p x1 x2 x3 x4 x5:=fun x1 x2 x3 x4 x5=>all1 _ (pr i1 (pr i2 (pr i3 (pr i4 i5)))) _ h (x1,x2,x3,x4,x5)
theorem in5 (p:T1->T2->T3->T4->T5->Prop) (x1:T1) (x2:T2) (x3:T3) (x4:T4) (x5:T5) (h:p x1 x2 x3 x4 x5):∃ x1 x2 x3 x4 x5,p x1 x2 x3 x4 x5:=⟨x1,in4 T2 T3 T4 T5 (p x1) x2 x3 x4 x5 h⟩
theorem tu5 (p:T1->T2->T3->T4->T5->Prop) (h:∃ x1 x2 x3 x4 x5,p x1 x2 x3 x4 x5):∃ x,u5 T1 T2 T3 T4 T5 p x:=h.elim fun x1 h=>(tu4 T2 T3 T4 T5 (p x1) h).elim fun y h=>⟨(x1,y),h⟩
noncomputable def w5 (p:T1->T2->T3->T4->T5->Prop):T1×T2×T3×T4×T5:=w1 _ (pr i1 (pr i2 (pr i3 (pr i4 i5)))) (u5 T1 T2 T3 T4 T5 p)
theorem ex5 (p:T1->T2->T3->T4->T5->Prop) (h:∃ x1 x2 x3 x4 x5,p x1 x2 x3 x4 x5):u5 T1 T2 T3 T4 T5 p (w5 T1 i1 T2 i2 T3 i3 T4 i4 T5 i5 p):=ex1 _ (pr i1 (pr i2 (pr i3 (pr i4 i5)))) _ (tu5 T1 T2 T3 T4 T5 p h)
def u6 (p:T1->T2->T3->T4->T5->T6->Prop) (x:T1×T2×T3×T4×T5×T6):Prop:=u5 T2 T3 T4 T5 T6 (p x.1) x.2
noncomputable def e6 (p:T1->T2->T3->T4->T5->T6->Prop):T1×T2×T3×T4×T5×T6:=e1 _ (pr i1 (pr i2 (pr i3 (pr i4 (pr i5 i6))))) (u6 T1 T2 T3 T4 T5 T6 p)
theorem all6 (p:T1->T2->T3->T4->T5->T6->Prop) (h:u6 T1 T2 T3 T4 T5 T6 p (e6 T1 i1 T2 i2 T3 i3 T4 i4 T5 i5 T6 i6 p)):∀ x1 x2 x3 x4 x5 x6,p x1 x2 x3 x4 x5 x6:=fun x1 x2 x3 x4 x5 x6=>all1 _ (pr i1 (pr i2 (pr i3 (pr i4 (pr i5 i6))))) _ h (x1,x2,x3,x4,x5,x6)
theorem in6 (p:T1->T2->T3->T4->T5->T6->Prop) (x1:T1) (x2:T2) (x3:T3) (x4:T4) (x5:T5) (x6:T6) (h:p x1 x2 x3 x4 x5 x6):∃ x1 x2 x3 x4 x5 x6,p x1 x2 x3 x4 x5 x6:=⟨x1,in5 T2 T3 T4 T5 T6 (p x1) x2 x3 x4 x5 x6 h⟩
theorem tu6 (p:T1->T2->T3->T4->T5->T6->Prop) (h:∃ x1 x2 x3 x4 x5 x6,p x1 x2 x3 x4 x5 x6):∃ x,u6 T1 T2 T3 T4 T5 T6 p x:=h.elim fun x1 h=>(tu5 T2 T3 T4 T5 T6 (p x1) h).elim fun y h=>⟨(x1,y),h⟩
noncomputable def w6 (p:T1->T2->T3->T4->T5->T6->Prop):T1×T2×T3×T4×T5×T6:=w1 _ (pr i1 (pr i2 (pr i3 (pr i4 (pr i5 i6))))) (u6 T1 T2 T3 T4 T5 T6 p)
theorem ex6 (p:T1->T2->T3->T4->T5->T6->Prop) (h:∃ x1 x2 x3 x4 x5 x6,p x1 x2 x3 x4 x5 x6):u6 T1 T2 T3 T4 T5 T6 p (w6 T1 i1 T2 i2 T3 i3 T4 i4 T5 i5 T6 i6 p):=ex1 _ (pr i1 (pr i2 (pr i3 (pr i4 (pr i5 i6))))) _ (tu6 T1 T2 T3 T4 T5 T6 p h)
def u7 (p:T1->T2->T3->T4->T5->T6->T7->Prop) (x:T1×T2×T3×T4×T5×T6×T7):Prop:=u6 T2 T3 T4 T5 T6 T7 (p x.1) x.2
noncomputable def e7 (p:T1->T2->T3->T4->T5->T6->T7->Prop):T1×T2×T3×T4×T5×T6×T7:=e1 _ (pr i1 (pr i2 (pr i3 (pr i4 (pr i5 (pr i6 i7)))))) (u7 T1 T2 T3 T4 T5 T6 T7 p)
theorem all7 (p:T1->T2->T3->T4->T5->T6->T7->Prop) (h:u7 T1 T2 T3 T4 T5 T6 T7 p (e7 T1 i1 T2 i2 T3 i3 T4 i4 T5 i5 T6 i6 T7 i7 p)):∀ x1 x2 x3 x4 x5 x6 x7,p x1 x2 x3 x4 x5 x6 x7:=fun x1 x2 x3 x4 x5 x6 x7=>all1 _ (pr i1 (pr i2 (pr i3 (pr i4 (pr i5 (pr i6 i7)))))) _ h (x1,x2,x3,x4,x5,x6,x7)
theorem in7 (p:T1->T2->T3->T4->T5->T6->T7->Prop) (x1:T1) (x2:T2) (x3:T3) (x4:T4) (x5:T5) (x6:T6) (x7:T7) (h:p x1 x2 x3 x4 x5 x6 x7):∃ x1 x2 x3 x4 x5 x6 x7,p x1 x2 x3 x4 x5 x6 x7:=⟨x1,in6 T2 T3 T4 T5 T6 T7 (p x1) x2 x3 x4 x5 x6 x7 h⟩
theorem tu7 (p:T1->T2->T3->T4->T5->T6->T7->Prop) (h:∃ x1 x2 x3 x4 x5 x6 x7,p x1 x2 x3 x4 x5 x6 x7):∃ x,u7 T1 T2 T3 T4 T5 T6 T7 p x:=h.elim fun x1 h=>(tu6 T2 T3 T4 T5 T6 T7 (p x1) h).elim fun y h=>⟨(x1,y),h⟩
noncomputable def w7 (p:T1->T2->T3->T4->T5->T6->T7->Prop):T1×T2×T3×T4×T5×T6×T7:=w1 _ (pr i1 (pr i2 (pr i3 (pr i4 (pr i5 (pr i6 i7)))))) (u7 T1 T2 T3 T4 T5 T6 T7 p)
theorem ex7 (p:T1->T2->T3->T4->T5->T6->T7->Prop) (h:∃ x1 x2 x3 x4 x5 x6 x7,p x1 x2 x3 x4 x5 x6 x7):u7 T1 T2 T3 T4 T5 T6 T7 p (w7 T1 i1 T2 i2 T3 i3 T4 i4 T5 i5 T6 i6 T7 i7 p):=ex1 _ (pr i1 (pr i2 (pr i3 (pr i4 (pr i5 (pr i6 i7)))))) _ (tu7 T1 T2 T3 T4 T5 T6 T7 p h)
def u8 (p:T1->T2->T3->T4->T5->T6->T7->T8->Prop) (x:T1×T2×T3×T4×T5×T6×T7×T8):Prop:=u7 T2 T3 T4 T5 T6 T7 T8 (p x.1) x.2
noncomputable def e8 (p:T1->T2->T3->T4->T5->T6->T7->T8->Prop):T1×T2×T3×T4×T5×T6×T7×T8:=e1 _ (pr i1 (pr i2 (pr i3 (pr i4 (pr i5 (pr i6 (pr i7 i8))))))) (u8 T1 T2 T3 T4 T5 T6 T7 T8 p)
theorem all8 (p:T1->T2->T3->T4->T5->T6->T7->T8->Prop) (h:u8 T1 T2 T3 T4 T5 T6 T7 T8 p (e8 T1 i1 T2 i2 T3 i3 T4 i4 T5 i5 T6 i6 T7 i7 T8 i8 p)):∀ x1 x2 x3 x4 x5 x6 x7 x8,p x1 x2 x3 x4 x5 x6 x7 x8:=fun x1 x2 x3 x4 x5 x6 x7 x8=>all1 _ (pr i1 (pr i2 (pr i3 (pr i4 (pr i5 (pr i6 (pr i7 i8))))))) _ h (x1,x2,x3,x4,x5,x6,x7,x8)
theorem in8 (p:T1->T2->T3->T4->T5->T6->T7->T8->Prop) (x1:T1) (x2:T2) (x3:T3) (x4:T4) (x5:T5) (x6:T6) (x7:T7) (x8:T8) (h:p x1 x2 x3 x4 x5 x6 x7 x8):∃ x1 x2 x3 x4 x5 x6 x7 x8,p x1 x2 x3 x4 x5 x6 x7 x8:=⟨x1,in7 T2 T3 T4 T5 T6 T7 T8 (p x1) x2 x3 x4 x5 x6 x7 x8 h⟩
def u9 (p:T1->T2->T3->T4->T5->T6->T7->T8->T9->Prop) (x:T1×T2×T3×T4×T5×T6×T7×T8×T9):Prop:=u8 T2 T3 T4 T5 T6 T7 T8 T9 (p x.1) x.2
noncomputable def e9 (p:T1->T2->T3->T4->T5->T6->T7->T8->T9->Prop):T1×T2×T3×T4×T5×T6×T7×T8×T9:=e1 _ (pr i1 (pr i2 (pr i3 (pr i4 (pr i5 (pr i6 (pr i7 (pr i8 i9)))))))) (u9 T1 T2 T3 T4 T5 T6 T7 T8 T9 p)
theorem all9 (p:T1->T2->T3->T4->T5->T6->T7->T8->T9->Prop) (h:u9 T1 T2 T3 T4 T5 T6 T7 T8 T9 p (e9 T1 i1 T2 i2 T3 i3 T4 i4 T5 i5 T6 i6 T7 i7 T8 i8 T9 i9 p)):∀ x1 x2 x3 x4 x5 x6 x7 x8 x9,p x1 x2 x3 x4 x5 x6 x7 x8 x9:=fun x1 x2 x3 x4 x5 x6 x7 x8 x9=>all1 _ (pr i1 (pr i2 (pr i3 (pr i4 (pr i5 (pr i6 (pr i7 (pr i8 i9)))))))) _ h (x1,x2,x3,x4,x5,x6,x7,x8,x9)
def u10 (p:T1->T2->T3->T4->T5->T6->T7->T8->T9->Sg->Prop) (x:T1×T2×T3×T4×T5×T6×T7×T8×T9×Sg):Prop:=u9 T2 T3 T4 T5 T6 T7 T8 T9 Sg (p x.1) x.2
noncomputable def e10 (p:T1->T2->T3->T4->T5->T6->T7->T8->T9->Sg->Prop):T1×T2×T3×T4×T5×T6×T7×T8×T9×Sg:=e1 _ (pr i1 (pr i2 (pr i3 (pr i4 (pr i5 (pr i6 (pr i7 (pr i8 (pr i9 VO))))))))) (u10 T1 T2 T3 T4 T5 T6 T7 T8 T9 Sg p)
theorem all10 (p:T1->T2->T3->T4->T5->T6->T7->T8->T9->Sg->Prop) (h:u10 T1 T2 T3 T4 T5 T6 T7 T8 T9 Sg p (e10 T1 i1 T2 i2 T3 i3 T4 i4 T5 i5 T6 i6 T7 i7 T8 i8 T9 i9 Sg VO p)):∀ x1 x2 x3 x4 x5 x6 x7 x8 x9 UU,p x1 x2 x3 x4 x5 x6 x7 x8 x9 UU:=fun x1 x2 x3 x4 x5 x6 x7 x8 x9 UU=>all1 _ (pr i1 (pr i2 (pr i3 (pr i4 (pr i5 (pr i6 (pr i7 (pr i8 (pr i9 VO))))))))) _ h (x1,x2,x3,x4,x5,x6,x7,x8,x9,UU)
def u11 (p:T1->T2->T3->T4->T5->T6->T7->T8->T9->Sg->Ts->Prop) (x:T1×T2×T3×T4×T5×T6×T7×T8×T9×Sg×Ts):Prop:=u10 T2 T3 T4 T5 T6 T7 T8 T9 Sg Ts (p x.1) x.2
noncomputable def e11 (p:T1->T2->T3->T4->T5->T6->T7->T8->T9->Sg->Ts->Prop):T1×T2×T3×T4×T5×T6×T7×T8×T9×Sg×Ts:=e1 _ (pr i1 (pr i2 (pr i3 (pr i4 (pr i5 (pr i6 (pr i7 (pr i8 (pr i9 (pr VO XP)))))))))) (u11 T1 T2 T3 T4 T5 T6 T7 T8 T9 Sg Ts p)
theorem all11 (p:T1->T2->T3->T4->T5->T6->T7->T8->T9->Sg->Ts->Prop) (h:u11 T1 T2 T3 T4 T5 T6 T7 T8 T9 Sg Ts p (e11 T1 i1 T2 i2 T3 i3 T4 i4 T5 i5 T6 i6 T7 i7 T8 i8 T9 i9 Sg VO Ts XP p)):∀ x1 x2 x3 x4 x5 x6 x7 x8 x9 UU WC,p x1 x2 x3 x4 x5 x6 x7 x8 x9 UU WC:=fun x1 x2 x3 x4 x5 x6 x7 x8 x9 UU WC=>all1 _ (pr i1 (pr i2 (pr i3 (pr i4 (pr i5 (pr i6 (pr i7 (pr i8 (pr i9 (pr VO XP)))))))))) _ h (x1,x2,x3,x4,x5,x6,x7,x8,x9,UU,WC)
def u12 (p:T1->T2->T3->T4->T5->T6->T7->T8->T9->Sg->Ts->VK->Prop) (x:T1×T2×T3×T4×T5×T6×T7×T8×T9×Sg×Ts×VK):Prop:=u11 T2 T3 T4 T5 T6 T7 T8 T9 Sg Ts VK (p x.1) x.2
noncomputable def e12 (p:T1->T2->T3->T4->T5->T6->T7->T8->T9->Sg->Ts->VK->Prop):T1×T2×T3×T4×T5×T6×T7×T8×T9×Sg×Ts×VK:=e1 _ (pr i1 (pr i2 (pr i3 (pr i4 (pr i5 (pr i6 (pr i7 (pr i8 (pr i9 (pr VO (pr XP i12))))))))))) (u12 T1 T2 T3 T4 T5 T6 T7 T8 T9 Sg Ts VK p)
theorem all12 (p:T1->T2->T3->T4->T5->T6->T7->T8->T9->Sg->Ts->VK->Prop) (h:u12 T1 T2 T3 T4 T5 T6 T7 T8 T9 Sg Ts VK p (e12 T1 i1 T2 i2 T3 i3 T4 i4 T5 i5 T6 i6 T7 i7 T8 i8 T9 i9 Sg VO Ts XP VK i12 p)):∀ x1 x2 x3 x4 x5 x6 x7 x8 x9 UU WC x12,p x1 x2 x3 x4 x5 x6 x7 x8 x9 UU WC x12:=fun x1 x2 x3 x4 x5 x6 x7 x8 x9 UU WC x12=>all1 _ (pr i1 (pr i2 (pr i3 (pr i4 (pr i5 (pr i6 (pr i7 (pr i8 (pr i9 (pr VO (pr XP i12))))))))))) _ h (x1,x2,x3,x4,x5,x6,x7,x8,x9,UU,WC,x12)
end
end Cz
set_option genInjectivity false
set_option backward.match.sparseCases false
namespace Om
noncomputable section
inductive N where
| v (i:Nat)
| c (k:Nat)
| a (x y:N)
| m (k:Nat) (x:N)
| r (x:N) (k:Nat)
inductive Z where
| v (i:Nat)
| c (k:Int)
| n (x:N)
| a (x y:Z)
| s (x y:Z)
| m (k:Int) (x:Z)
| r (x:Z) (k:Int)
| g (x:Z)
inductive C where
| nil
| n (q:Nat) (k:Int) (x y:N) (r:C)
| z (q:Nat) (k:Int) (x y:Z) (r:C)
abbrev get {α:Type} (d:α) (l:List α) (i:Nat):α:=km (fun _=>d) (fun x _ ih i=>jM x (fun j _=>ih j) i) l i
abbrev MS {α:Type} (q:Nat) (a b c d e:α):α:=jM a (fun q _=>jM b (fun q _=>jM c (fun q _=>jM d (fun _ _=>e) q) q) q) q
abbrev N.den (A:List Nat) (e:N):Nat:=N.rec (get 0 A) (fun k=>k) (fun _ _ x y=>x+y) (fun k _ x=>k * x) (fun _ k x=>x * k) e
abbrev Z.den (A:List Nat) (B:List Int) (e:Z):Int:=Z.rec (get 0 B) (fun k=>k) (fun x=>(x.den A:Int)) (fun _ _ x y=>x+y) (fun _ _ x y=>x-y) (fun k _ x=>k * x) (fun _ k x=>x * k) (fun _ x=> -x) e
abbrev C.imp (A:List Nat) (B:List Int) (e:C):Prop:=
 C.rec False (fun q _ x y _ p=>MS q (x.den A<=y.den A) (x.den A<y.den A) (x.den A=y.den A) (¬ x.den A<=y.den A) (¬ x.den A<y.den A)->p)
  (fun q _ x y _ p=>MS q (x.den A B<=y.den A B) (x.den A B<y.den A B) (x.den A B=y.den A B) (¬ x.den A B<=y.den A B) (¬ x.den A B<y.den A B)->p) e
abbrev L:=Int×List Int×List Int
def Ii (l:List Int):List Int->List Int:=km (fun m=>m) (fun x l ih m=>km (x::l) (fun y m _=>(x+y)::ih m) m) l
def unit (i:Nat):List Int:=jM [1] (fun _ l=>0::l) i
def yF (l:List Int):List Int->Int:=km (fun _=>0) (fun x _ ih m=>km 0 (fun y m _=>x * y+ih m) m) l
def wC (x y:L):L:=(x.1+y.1,Ii x.2.1 y.2.1,Ii x.2.2 y.2.2)
def y6 (k:Int) (x:L):L:=(k * x.1,x.2.1.map (k * ·),x.2.2.map (k * ·))
def ev (A:List Nat) (B:List Int) (x:L):Int:=x.1+yF x.2.1 (A.map fun n:Nat=>(n:Int))+yF x.2.2 B
def N.Tf (e:N):L:=N.rec (fun i=>(0,unit i,[])) (fun k=>(k,[],[])) (fun _ _ x y=>wC x y) (fun k _ x=>y6 k x) (fun _ k x=>y6 k x) e
def Z.Tf (e:Z):L:=Z.rec (fun i=>(0,[],unit i)) (fun k=>(k,[],[])) (fun x=>x.Tf) (fun _ _ x y=>wC x y) (fun _ _ x y=>wC x (y6 (-1) y)) (fun k _ x=>y6 k x) (fun _ k x=>y6 k x) (fun _ x=>y6 (-1) x) e
def OB (q:Nat) (k:Int) (x y:L):L:=y6 (MS q k.natAbs k.natAbs k k.natAbs k.natAbs) (MS q (wC y (y6 (-1) x)) (wC (wC y (y6 (-1) x)) (-1,[],[])) (wC y (y6 (-1) x)) (wC (wC x (y6 (-1) y)) (-1,[],[])) (wC x (y6 (-1) y)))
def C.sum (e:C):L:=C.rec (0,[],[]) (fun q k x y _ s=>wC s (OB q k x.Tf y.Tf)) (fun q k x y _ s=>wC s (OB q k x.Tf y.Tf)) e
def C.ok (e:C):Bool:=decide (e.sum.1<0)&&e.sum.2.1.all (fun x=>decide (x<=0))&&e.sum.2.2.all (fun x=>decide (x=0))
theorem OC (l:List Int):yF l []=0:=by cases l<;>rfl
theorem Ho (l m c:List Int):yF (Ii l m) c=yF l c+yF m c:=by
 induction l generalizing m c with
 | nil=>exact (oE _).symm
 | cons x l ih=>
  cases m with
  | nil=>exact (lb _).symm
  | cons y m=>cases c with | nil=>rfl | cons z c=>show (x+y) * z+yF (Ii l m) c=(x * z+yF l c)+(y * z+yF m c);rw [ih,Int.add_mul];lia
theorem Ix (k:Int) (l c:List Int):yF (l.map (k * ·)) c=k * yF l c:=by
 induction l generalizing c with
 | nil=>exact (la k).symm
 | cons x l ih=>cases c with | nil=>exact (la k).symm | cons z c=>show k * x * z+yF (l.map (k * ·)) c=k * (x * z+yF l c);rw [ih,jQ,nN]
theorem Bi (i:Nat) (c:List Int):yF (unit i) c=get 0 c i:=by
 induction i generalizing c with
 | zero=>cases c with | nil=>rfl | cons z c=>show 1 * z+0=z;lia
 | succ i ih=>cases c with | nil=>rfl | cons z c=>show 0 * z+yF (unit i) c=get 0 c i;rw [ih];lia
theorem J1 (A:List Nat) (i:Nat):get (0:Int) (A.map fun n:Nat=>(n:Int)) i=(get 0 A i:Nat):=by
 induction A generalizing i with
 | nil=>rfl
 | cons x A ih=>cases i with | zero=>rfl | succ i=>exact ih i
section
variable (A:List Nat) (B:List Int)
theorem rh (x y:L):ev A B (wC x y)=ev A B x+ev A B y:=by simp only [wC,ev,Ho];lia
theorem rg (k:Int) (x:L):ev A B (y6 k x)=k * ev A B x:=by simp only [y6,ev,Ix,jQ]
theorem Hd (k:Int):ev A B (k,[],[])=k:=by show k+0+0=k;lia
theorem N.Si (e:N):ev A B e.Tf=(e.den A:Int):=by induction e with | v i=>show 0+yF (unit i) _+0=((get 0 A i:Nat):Int);rw [Bi,J1];lia | c k=>exact Hd A B k | a x y h1 h2=>show ev A B (wC x.Tf y.Tf)=_;rw [rh,h1,h2];exact (fy _ _).symm | m k x h=>show ev A B (y6 k x.Tf)=_;rw [rg,h];exact (da _ _).symm | r x k h=>show ev A B (y6 k x.Tf)=_;rw [rg,h,eQ];exact (da _ _).symm
theorem Z.Si (e:Z):ev A B e.Tf=e.den A B:=by induction e with | v i=>show 0+0+yF (unit i) B=get 0 B i;rw [Bi];lia | c k=>exact Hd A B k | n x=>exact N.Si A B x | a x y h1 h2=>show ev A B (wC x.Tf y.Tf)=_;rw [rh,h1,h2] | s x y h1 h2=>show ev A B (wC x.Tf (y6 (-1) y.Tf))=_;rw [rh,rg,h1,h2];show _=x.den A B-y.den A B;lia | m k x h=>show ev A B (y6 k x.Tf)=_;rw [rg,h] | r x k h=>show ev A B (y6 k x.Tf)=_;rw [rg,h,eQ] | g x h=>show ev A B (y6 (-1) x.Tf)=_;rw [rg,h];show _= - x.den A B;lia
theorem FD {q:Nat} {k:Int} {x y:L} {a b:Int} {p1 p2 p3 p4 p5:Prop} (hx:ev A B x=a) (hy:ev A B y=b) (h:MS q p1 p2 p3 p4 p5) (h1:p1->a<=b) (h2:p2->a<b) (h3:p3->a=b) (h4:p4->¬ a<=b) (h5:p5->¬ a<b):0<=ev A B (OB q k x y):=by have nn:∀ z:Int,0<=z->0<=(k.natAbs:Int) * z:=fun z hz=>ir (az _) hz;rw [OB,rg];match q,h with | 0,h=>refine nn _ ?_;show 0<=ev A B (wC _ _);rw [rh,rg,hx,hy];have:=h1 h;lia | 1,h=>refine nn _ ?_;show 0<=ev A B (wC (wC _ _) _);rw [rh,rh,rg,Hd,hx,hy];have:=h2 h;lia | 2,h=>show 0<=k * ev A B (wC _ _);rw [rh,rg,hx,hy];have:=h3 h;rw [show b+ -1 * a=0 by lia,la];exact jR 0 | 3,h=>refine nn _ ?_;show 0<=ev A B (wC (wC _ _) _);rw [rh,rh,rg,Hd,hx,hy];have:=h4 h;lia | _+4,h=>refine nn _ ?_;show 0<=ev A B (wC _ _);rw [rh,rg,hx,hy];have:=h5 h;lia
theorem LL (e:C) (h:0<=ev A B e.sum->False):e.imp A B:=by
 induction e with
 | nil=>exact h (by show 0<=ev A B (0,[],[]);rw [Hd];exact jR 0)
 | n q k x y r ih=>intro p;refine ih fun g=>h ?_;show 0<=ev A B (wC _ _);rw [rh];exact nz g (FD A B (N.Si A B x) (N.Si A B y) p (fun h=>oG.mpr h) (fun h=>oF.mpr h) (fun h=>congrArg _ h) (fun h k=>h (oG.mp k)) (fun h k=>h (oF.mp k)))
 | z q k x y r ih=>intro p;refine ih fun g=>h ?_;show 0<=ev A B (wC _ _);rw [rh];exact nz g (FD A B (Z.Si A B x) (Z.Si A B y) p id id id id id)
end
theorem JM (l:List Int):∀ A:List Nat,l.all (fun x=>decide (x<=0))=true->yF l (A.map fun n:Nat=>(n:Int))<=0:=by
 induction l with
 | nil=>exact fun _ _=>jR 0
 | cons x l ih=>intro A h;cases A with | nil=>exact jR 0 | cons n A=>rw [ez,ai] at h;exact Int.add_nonpos (Int.mul_nonpos_of_nonpos_of_nonneg (of_decide_eq_true h.1) (az n)) (ih A h.2)
theorem HE (l:List Int):∀ B:List Int,l.all (fun x=>decide (x=0))=true->yF l B=0:=by
 induction l with
 | nil=>exact fun _ _=>rfl
 | cons x l ih=>intro B h;cases B with | nil=>rfl | cons n B=>rw [ez,ai] at h;show x * n+yF l B=0;rw [ih B h.2,show x=0 from of_decide_eq_true h.1];lia
theorem no (A:List Nat) (B:List Int) (e:C) (h:e.ok=true):e.imp A B:=by refine LL A B e fun p=>?_;unfold C.ok at h;rw [ai,ai] at h;have h1:=JM _ A h.1.2;have h2:=HE _ B h.2;have h3:e.sum.1<0:=of_decide_eq_true h.1.1;unfold ev at p;lia
end
end Om
namespace Om
theorem nor (a b:Prop) (h:¬ (a\/b)):¬ a/\¬ b:=⟨fun x=>h (.inl x),fun x=>h (.inr x)⟩
theorem mnn (x y:Int) (h:decide (0<y)=true):0<=x % y:=Int.emod_nonneg x (Int.ne_of_gt (of_decide_eq_true h))
theorem mlt (x y:Int) (h:decide (0<y)=true):x % y<y:=Int.emod_lt_of_pos x (of_decide_eq_true h)
open Lean Meta Elab Tactic Mt
abbrev V:=List Int
def va:V->V->V
| [],m=>m
| l,[]=>l
| x::l,y::m=>(x+y)::va l m
def vm (k:Int) (l:V):V:=l.map (k * ·)
def vu (i:Nat):V:=(d6 i 0)++[1]
def at_ (v:V) (i:Nat):Int:=v.getD i 0
structure F where
 pf:Expr
 z:Bool
 q:Nat
 x:Expr
 y:Expr
abbrev A:=List Expr×List Expr
def put (l:List Expr) (e:Expr):List Expr×Nat:=
 let i:=l.idxOf e
 (if i<l.length then l else l++[e],i)
def lit (z:Bool) (e:Expr):Option Int:=
 let as:=e.getAppArgs
 let n (e:Expr):Option Int:=if z then e.int? else (e.rawNatLit?.orElse fun _=>e.nat?).map fun n:Nat=>(n:Int)
 if hd e=="HPow.hPow" &&as.size==6 then (n as[4]!).bind fun b=>as[5]!.nat?.map fun k=>b ^ k else n e
def KQ:Nat->Bool->Expr->A->A×Expr×V
| 0,_,e,a=>(a,e,[])
| k+1,z,e,a=>
  let t (s:String) (l:List Expr):Expr:=mkAppN (cn ((if z then "Om.Z." else "Om.N.")++s)) l.toArray
  let num (v:Int):Expr:=if z then toExpr v else mkRawNatLit v.toNat
  let as:=e.getAppArgs
  let y:=as.getD (as.size-1) e
  let x:=as.getD (as.size-2) e
  let two (s:String) (c:Int):A×Expr×V:=
   let (a,x,v):=KQ k z x a
   let (a,y,w):=KQ k z y a
   (a,t s [x,y],va v (vm c w))
  let atom:A×Expr×V:=
   let (l,i):=put (if z then a.2 else a.1) e
   (if z then (a.1,l) else (l,a.2),t "v" [mkRawNatLit i],vu (2 * i+if z then 2 else 1))
  match lit z e with
  | some v=>(a,t "c" [num v],[v])
  | none=>if !e.isApp then atom else match hd e,z with
   | "HAdd.hAdd",_=>two "a" 1
   | "HSub.hSub",true=>two "s" (-1)
   | "Neg.neg",true=>let (a,y,v):=KQ k z y a;(a,t "g" [y],vm (-1) v)
   | "Nat.cast",true=>let (a,y,v):=KQ k false y a;(a,t "n" [y],v)
   | "HMul.hMul",_=>match lit z x,lit z y with
    | some c,_=>let (a,y,v):=KQ k z y a;(a,t "m" [num c,y],vm c v)
    | none,some c=>let (a,x,v):=KQ k z x a;(a,t "r" [x,num c],vm c v)
    | _,_=>atom
   | _,_=>atom
def OV (t:Expr):Option (Nat×Bool×Expr×Expr):=
 let q:=["LE.le","LT.lt","Eq","GE.ge","GT.gt"].idxOf (hd t)
 let z:=hd (t.getAppArgs.getD 0 t)
 if t.isApp&&q<5&&vQ z "Nat Int" then (if q<3 then some (q,z=="Int",t.appFn!.appArg!,t.appArg!) else some (q-3,z=="Int",t.appArg!,t.appFn!.appArg!)) else none
abbrev O:=Expr×Expr×Expr
def zl:Nat->Expr->Expr->MetaM (List F×List O)
| 0,_,_=>return ([],[])
| k+1,pf,t=>do
  let t <-whnfR t
  let as:=t.getAppArgs
  let ne (e:Expr):MetaM (List F×List O):=do
   match OV e with
   | some (q,z,x,y)=>
    if q==2 then return ([],[(mkApp3 (cn (if z then "Int.lt_or_gt_of_ne" else "Nat.lt_or_gt_of_ne")) x y pf,<-mkLT x y,<-mkLT y x)])
    else return ([⟨pf,z,q+3,x,y⟩],[])
   | none=>match hd e,e.getAppArgs.toList with
    | "Or",[a,b]=>zl k (mkApp3 (cn "Om.nor") a b pf) (mkAnd (mkNot a) (mkNot b))
    | _,_=>return ([],[])
  match OV t with
  | some (q,z,x,y)=>return ([⟨pf,z,q,x,y⟩],[])
  | none=>match hd t,as.toList with
   | "And",[a,b]=>
    let x <-zl k (.proj ``And 0 pf) a
    let y <-zl k (.proj ``And 1 pf) b
    return (x.1++y.1,x.2++y.2)
   | "Or",[a,b]=>return ([],[(pf,a,b)])
   | "Not",[e]=>ne (<-whnfR e)
   | "Ne",[_,a,b]=>ne (<-mkEq a b)
   | _,_=>if t.isArrow&&hd t.bindingBody! =="False" then ne (<-whnfR t.bindingDomain!) else return ([],[])
def Qh (q:Nat) (x y:V):V:=
 let d:=va y (vm (-1) x)
 match q with
| 1=>va d [-1]
| 3=>va (vm (-1) d) [-1]
| 4=>vm (-1) d
| _=>d
abbrev K:=V×V
def MU (l:List K):Nat->Nat×Nat->Nat×Nat
| 0,b=>b
| i+1,b=>
  let p:=l.countP fun c=>at_ c.1 (i+1) > 0
  let n:=l.countP fun c=>at_ c.1 (i+1)<0
  MU l i (if p+n > 0&&(b.1==0 ||p * n<b.2) then (i+1,p * n) else b)
def fm:Nat->List K->Option V
| 0,_=>none
| k+1,l=>
  match l.find? (fun c=>at_ c.1 0<0&&c.1.tail.all (· ==0)) with
  | some c=>some c.2
  | none=>
   let v:=(MU l (l.foldl (fun n c=>max n c.1.length) 0) (0,0)).1
   let (P,r):=l.partition fun c=>at_ c.1 v > 0
   let (N,O):=r.partition fun c=>at_ c.1 v<0
   let l':=P.flatMap (fun p=>N.map fun n=>
    let s:=at_ p.1 v
    let t:= - at_ n.1 v
    let g:Int:=Int.gcd s t
    let f (x y:V):V:=va (vm (t / g) x) (vm (s / g) y)
    (f p.1 n.1,f p.2 n.2))++O
   if v==0 ||l'.length > 400 then none else fm k l'
def lst (t:Expr) (l:List Expr):Expr:=l.foldr (fun x r=> .app (.app (.app (.const ``List.cons [.zero]) t) x) r) (.app (.const ``List.nil [.zero]) t)
def LO:List F->A->A×List (Expr×Expr×V)
| [],a=>(a,[])
| f::l,a=>
  let (a,x,v):=KQ 60 f.z f.x a
  let (a,y,w):=KQ 60 f.z f.y a
  let (a,r):=LO l a
  (a,(x,y,Qh f.q v w)::r)
def P5 (e:Expr):List F:=
 let as:=e.getAppArgs
 match as.toList with
| [T,_,_,_,x,y]=>
  let z:=hd T=="Int"
  let s:=if z then "Int" else "Nat"
  let one (h j:String):Expr:=mkApp6 (.const h.toName [.zero,.zero,.zero]) (cn s) (cn s) (cn s) (mkApp2 (.const ("inst" ++(h.splitOn ".").head!).toName [.zero]) (cn s) (cn j)) x y
  let rf (b:Bool):Expr:=mkApp2 (.const ``Eq.refl [.one]) (cn "Bool") (toExpr b)
  match vQ (hd e) "HDiv.hDiv HMod.hMod",(if z then y.int?.map Int.toNat else y.nat?) with
  | true,some (n+1)=>
   if z then
    let k:Expr:=toExpr ((n+1:Nat):Int)
    let m:=one "HMod.hMod" "Int.instModInt"
    let d:=one "HDiv.hDiv" "Int.instDivInt"
    [⟨mkApp2 (cn "Int.mul_ediv_add_emod") x y,true,2,mkIntAdd (mkIntMul k d) m,x⟩,⟨mkApp3 (cn "Om.mnn") x y (rf true),true,0,toExpr (0:Int),m⟩,⟨mkApp3 (cn "Om.mlt") x y (rf true),true,1,m,k⟩]
   else
    let k:=mkNatLit (n+1)
    let m:=one "HMod.hMod" "Nat.instMod"
    let d:=one "HDiv.hDiv" "Nat.instDiv"
    [⟨mkApp2 (cn "Nat.div_add_mod") x y,false,2,mkNatAdd (mkNatMul k d) m,x⟩,⟨mkApp3 (cn "Nat.mod_lt") x y (mkApp3 (cn "Nat.le_of_ble_eq_true") (mkNatLit 1) k (rf true)),false,1,m,k⟩]
  | _,_=>[]
| _=>[]
def PI (e:Expr):List (Bool×Expr×Expr×(Expr->F)×(Expr->F)):=
 let as:=e.getAppArgs
 let y:=as.getD (as.size-1) e
 let x:=as.getD (as.size-2) e
 let z:=hd (as.getD 0 e)=="Int"
 let o:Expr:=toExpr (0:Int)
 let f (s:String) (z:Bool) (l:List Expr) (a b h:Expr):F:=⟨.app (mkAppN (cn s) l.toArray) h,z,2,a,b⟩
 let i (s:String) (b:Expr):Expr->F:=f ("Int." ++s) true [y] (mkApp3 (.const ``Nat.cast [.zero]) (cn "Int") (cn "instNatCastInt") e) b
 let m (s:String) (b:Expr):Expr->F:=f ((if z then "Int." else "Nat.")++s) z [x,y] e b
 match hd e with
| "HSub.hSub" =>if z then [] else [(false,y,x,f "Nat.sub_add_cancel" false [x,y] (mkNatAdd e y) x,f "Nat.sub_eq_zero_of_le" false [x,y] e (mkNatLit 0))]
| "Int.toNat" =>[(true,o,y,i "toNat_of_nonneg" y,f "Int.toNat_of_nonpos" false [y] e (mkNatLit 0))]
| "Int.natAbs" =>[(true,o,y,i "natAbs_of_nonneg" y,i "ofNat_natAbs_of_nonpos" (mkIntNeg y))]
| "Min.min" =>[(z,x,y,m "min_eq_left" x,m "min_eq_right" y)]
| "Max.max" =>[(z,x,y,m "max_eq_right" y,m "max_eq_left" x)]
| _=>[]
def TX:Nat->List F×List O->List Expr->MetaM Expr
| 0,_,_=>Mt.no
| n+1,(fs,os),dn=>do
  let (a,vs):=LO fs ([],[])
  let new:=(a.1++a.2).filter fun e=>!dn.contains e
  let qs:=new.flatMap P5
  if !qs.isEmpty then TX n (fs++qs,os) (dn++new.filter fun e=>(PI e).isEmpty) else
  let ks:=(fs.zip vs).zipIdx.flatMap fun ((f,_,_,v),i)=>(v,vu i)::if f.q==2 then [(vm (-1) v,vm (-1) (vu i))] else []
  match fm 60 ((aN a.1.length).map (fun i=>(vu (2 * i+1),([]:V)))++ks) with
  | none=>
   let br (p:Expr) (g:Expr->List F) (os:List O) (dn:List Expr):MetaM Expr:=withLocalDeclD `h p fun h=>do
    let (f,o) <-zl 20 h p
    mkLambdaFVars #[h] (<-TX n (fs++f++g h,os++o) dn)
   let el (pf p q x y:Expr):Expr:=mkAppN (cn "Or.elim") #[p,q,cn "False",pf,x,y]
   match new.flatMap (fun e=>(PI e).map fun r=>(e,r)),os with
   | (e,z,x,y,f,g)::_,_=>
    let p <-mkLE x y
    let q <-mkLE y x
    let dn:=e::dn
    return el (mkApp2 (cn (if z then "Int.le_total" else "Nat.le_total")) x y) p q (<-br p (fun h=>[f h]) os dn) (<-br q (fun h=>[g h]) os dn)
   | [],(pf,p,q)::os=>return el pf p q (<-br p (fun _=>[]) os dn) (<-br q (fun _=>[]) os dn)
   | _,_=>Mt.no
  | some cert=>
   let us:=fs.zipIdx.filter fun p=>at_ cert p.2 !=0
   let (a,vs):=LO (us.map (·.1)) ([],[])
   let c:=(us.zip vs).foldr (fun ((f,i),x,y,_) r=>mkAppN (cn (if f.z then "Om.C.z" else "Om.C.n")) #[mkRawNatLit f.q,toExpr (at_ cert i),x,y,r]) (cn "Om.C.nil")
   return mkAppN (cn "Om.no") (#[lst (cn "Nat") a.1,lst (cn "Int") a.2,c,mkApp2 (.const ``Eq.refl [.one]) (cn "Bool") (cn "Bool.true")]++(us.map fun u=>u.1.pf).toArray)
def Os:List Expr->MetaM (List F×List O)
| []=>return ([],[])
| x::l=>do
  let a <-zl 20 x (<-instantiateMVars (<-inferType x))
  let b <-Os l
  return (a.1++b.1,a.2++b.2)
def FV (fs:List F×List O):Nat->Expr->MetaM Expr
| 0,_=>Mt.no
| k+1,t=>do
  let t <-whnfR t
  let un (p:Expr):MetaM Expr:=withLocalDeclD `h p fun h=>do
   let a <-zl 20 h p
   mkLambdaFVars #[h] (<-TX 7 (fs.1++a.1,fs.2++a.2) [])
  match OV t with
  | some (q,z,x,y)=>
   if q==2 then return mkAppN (cn (if z then "Int.le_antisymm" else "Nat.le_antisymm")) #[x,y,<-FV fs k (<-mkLE x y),<-FV fs k (<-mkLE y x)]
   else return mkApp2 (cn "Classical.byContradiction") t (<-un (mkNot t))
  | none=>match hd t,t.getAppArgs.toList with
   | "False",_=>TX 7 fs []
   | "And",[a,b]=>return mkAppN (cn "And.intro") #[a,b,<-FV fs k a,<-FV fs k b]
   | "Not",[a]=>un a
   | "Or",_=>return mkApp2 (cn "Classical.byContradiction") t (<-un (mkNot t))
   | "Ne",[_,a,b]=>un (<-mkEq a b)
   | _,_=>if t.isArrow&&hd t.bindingBody! =="False" then un t.bindingDomain! else Mt.no
def go:TacticM Unit:=withMainContext do
 let g <-getMainGoal
 g.assign (<-FV (<-Os (<-getLocalHyps).toList) 30 (<-instantiateMVars (<-g.getType)))
 replaceMainGoal []
end Om
namespace Cz
open Lean Meta Mt
theorem i0:Nonempty Prop:=⟨True⟩
theorem fn (A B:Type) (i:Nonempty B):Nonempty (A->B):=i.elim fun b=>⟨fun _=>b⟩
theorem n1:Nonempty PySem.Shared:=⟨{}⟩
theorem n2:Nonempty PySem.Around:=⟨⟨default,default,default,default,default⟩⟩
theorem n5:Nonempty PySem.World:=by refine ⟨⟨default,?_⟩⟩;constructor<;>first | exact default | exact .refcount
theorem n6:Nonempty PySem.Drawn:=by constructor;constructor<;>exact default
theorem n7:Nonempty PySem.GenState:=⟨.fresh default⟩
theorem n8:Nonempty ki:=⟨.value default⟩
theorem n9:Nonempty PySem.Keeper:=⟨.machine⟩
theorem n10:Nonempty ni:=by constructor;constructor<;>exact default
theorem n11:Nonempty PySem.Model:=n5.elim fun w=>⟨by constructor<;>first | exact w | exact default⟩
def GA (v:Environment) (T:Expr):List String->Option Expr
| []=>none
| s::l=>match v.find? (.str `Cz s) with
  | some c=>if c.type.appArg! ==T then some (.const c.name []) else GA v T l
  | none=>GA v T l
def ne (T:Expr):MetaM (Option Expr):=do
 if T.hasFVar ||T.hasMVar ||T.hasLooseBVars then return none
 match T with
| .app (.app (.const ``Prod _) a) b=>do
  let i <-ne a
  return (<-ne b).bind fun j=>i.map fun i=>mkApp4 (cn "Cz.pr") a b i j
| .forallE _ a b _=>if <-isProp a then return none else return (<-ne b).map fun i=>mkApp3 (cn "Cz.fn") a b i
| .sort .zero=>return some (cn "Cz.i0")
| _=>
  if (<-getLevel T) != .one then return none
  match GA (<-getEnv) T ("n1 m1 n3 m2 n2 m3 n4 n5 n6 n7 n8 n9 n10 n11 m4 m5 m6 m7".splitOn " ") with
  | some r=>return some r
  | none=>return (<-trySynthInstance (mkApp (.const ``Nonempty [.one]) T)).toOption
def Ku:Nat->Expr->MetaM (List (Expr×Expr)×Expr)
| k+1,.lam n t r bi=>do
  match <-ne t with
  | some i=>let (l,e) <-Ku k r;return ((t,i)::l,e)
  | none=>return ([],.lam n t r bi)
| _,e=>return ([],e)
def IT (ts:List Expr) (b:Expr):Expr:=ts.foldr (fun t b=> .lam `x t b .default) b
def body:List Expr->Expr->Option Expr
| [],e=>some e
| t::l,.forallE _ t' b _=>if t==t' then body l b else none
| _,_=>none
def xo (c:Expr):Nat->List Expr
| 0=>[c]
| k+1=> .proj ``Prod 0 c::xo (.proj ``Prod 1 c) k
def call (s:String) (ts:List (Expr×Expr)) (P:Expr):Expr:= .app (ts.foldl (fun f p=> .app (.app f p.1) p.2) (cn ("Cz." ++s++toString ts.length))) P
def Ka (e:Expr) (x:Option Expr):MetaM (Option Expr):=do
 let (ts,r) <-Ku 12 e
 if ts.isEmpty then return none
 let us:=ts.map (·.1)
 let P <-(match x.bind (body us) with
  | some b=>return IT us b
  | none=>do let t <-inferType e;return IT us ((body us t).getD t))
 return some (.app (call "all" ts P) (r.instantiateRev (xo (call "e" ts P) (ts.length-1)).toArray))
def Kn (A k v:Expr) (rest:Array Expr):Expr:=mkAppN (.app (.lam `h A k .default) v) rest
def cut:Nat->Expr->MetaM Expr
| 0,.forallE _ _ b _=>if b.hasLooseBVar 0 then no else return b.lowerLooseBVars 1 1
| j+1,.forallE n t b bi=>return .forallE n t (<-cut j b) bi
| _,_=>no
def Og (t p:Expr):List (Expr×Expr):=match t with
| .app (.app f a) b=>if hd f=="And" then (a,.proj ``And 0 p)::Og b (.proj ``And 1 p) else [(t,p)]
| _=>[(t,p)]
def PA (s:Bool) (q:Expr×Expr) (h:Bool):MetaM Expr:=do
 let .app (.app (.app (.const _ us) T) a) b:=q.1 | no
 let f (n:Name) (x y p:Expr):Expr:=mkApp4 (.const n us) T x y p
 let (x,y,p):=if s then (b,a,f ``Eq.symm a b q.2) else (a,b,q.2)
 return if h then f ``heq_of_eq x y p else p
def Px:Expr->List Bool
| .forallE _ t b _=>(hd t=="HEq")::Px b
| _=>[]
def Be (s:String) (e:Expr):Option Expr:=if hd e==s&&e.getAppNumArgs==4 then some e.appArg! else none
def NW (e:Expr):Option Expr:=(Be "eq_of_heq" e).bind (Be "heq_of_eq")
def Pt (e:Expr):Option Expr:=
 match Be "Eq.symm" e with
| some p=>
  let c:=NW p
  (Be "Eq.symm" (c.getD p)).orElse fun _=>c.map fun p=> .app e.appFn! p
| none=>NW e
def A2:Nat->Nat->Expr->MetaM Expr
| 0,_,_=>no
| k+1,m,e=>
  if e.isMData then A2 k m e.consumeMData else
  if e.isLambda then let b:=e.bindingBody!
   if m !=0 then return .lam e.bindingName! e.bindingDomain! (<-A2 k (m-1) b) .default else if b.hasLooseBVar 0 then no else return b.lowerLooseBVars 1 1
  else if m !=0 then no else do
  let f:=e.getAppFn
  let as:=e.getAppArgs
  match hd e with
  | "Eq.ndrec" =>
   let .lam x t b bi:=as[2]! | no
   let j:=as.size-6
   return mkAppN f ((as.set! 2 (.lam x t (<-cut j b) bi)).set! 3 (<-A2 k j as[3]!))
  | "False.elim" =>return mkApp2 f (<-cut 0 as[0]!) as[1]!
  | _=>
   let .const (.str c _) us:=f | no
   let .ctorInfo i <-getConstInfo c | no
   let np:=i.numParams
   let nf:=i.numFields
   if as.size !=np+2 * nf+3 then no
   let ci <-getConstInfo (c.str "inj")
   let h:=as[as.size-2]!
   let q:=Be "Eq.symm" h
   let x:=as.extract (np+1) (np+1+nf)
   let y:=as.extract (np+1+nf) (np+1+2 * nf)
   let bs:=(as.extract 0 np++(if q.isSome then y++x else x++y)).push (q.getD h)
   let qs:=Og (<-instantiateForall (ci.type.instantiateLevelParams ci.levelParams us.tail!) bs) (mkAppN (.const ci.name us.tail!) bs)
   if qs.length !=nf then no
   let .forallE _ d _ _ <-inferType (mkAppN f as.pop) | no
   A2 k 0 ((as.back!.beta (<-(qs.zip (Px d)).mapM fun p=>PA q.isSome p.1 p.2).toArray).replace Pt)
def drop:List Expr->Expr->Expr->List Expr×Expr×Expr
| p::ps,.forallE n t r bi,.lam n' t' r' bi'=>
  if !r.hasLooseBVar 0&&!r'.hasLooseBVar 0 then drop ps (r.lowerLooseBVars 1 1) (r'.lowerLooseBVars 1 1)
  else
   let (ps,r,r'):=drop ps r r'
   (p::ps,.forallE n t r bi,.lam n' t' r' bi')
| ps,m,k=>(ps,m,k)
def MV:Nat->Expr->List Expr×Expr
| k+1,e=>if hd e=="Exists" &&e.getAppNumArgs==2&&e.appArg!.isLambda&&e.getAppFn.constLevels! ==[.succ .zero]&&!(e.getArg! 0).hasLooseBVars then
   let (ts,r):=MV k e.appArg!.bindingBody!
   (e.getArg! 0::ts,r) else ([],e)
| _,e=>([],e)
def Fm:Nat->Expr->List Expr×Expr
| n+1,e=>match Be "Exists.intro" e.consumeMData with
  | some p=>
   let (ws,h):=Fm n p
   (e.consumeMData.appFn!.appArg!::ws,h)
  | none=>([],e)
| 0,e=>([],e)
def Ky:Nat->Expr->Nat×Expr
| n+1,e=>
  let p:=if n !=0&&e.isLambda&&e.bindingBody!.isLambda then e.bindingBody!.bindingBody!.consumeMData else .bvar 0
  if hd p=="Exists.casesOn" &&p.getAppNumArgs==5&&p.appFn!.appArg! == .bvar 0&&!p.appArg!.hasLooseBVar 0 then
   let (k,r):=Ky n (p.appArg!.lowerLooseBVars 1 1).consumeMData
   (k+1,.lam e.bindingName! e.bindingDomain! r .default) else (1,e)
| _,e=>(1,e)
def Pi (x:MetaM Expr):MetaM (Option Expr):=do try return some (<-x) catch _=>return none
def same (a b:Expr):MetaM Bool:=tryCatchRuntimeEx (Core.withCurrHeartbeats (withTheReader Core.Context (fun c=>{c with maxHeartbeats:=500000}) (withNewMCtxDepth (isDefEq a b)))) fun _=>return false
def GW (us:List Level) (T a m x b h:Expr) (r:Array Expr):Expr:=
 mkAppN (match Be "Eq.symm" h with
| some p=>mkAppN (.const `Cz.rwg us) #[T,m,b,a,p,x]
| none=>mkAppN (.const ``Eq.ndrec (.zero::us)) #[T,a,m,x,b,h]) r
def OP (P p c:Expr):Option Expr:=
 let as:=p.getAppArgs
 let f:=P.getAppArgs
 let u:=P.getAppFn.constLevels!
 let l (h:Expr) (n:Nat):Option Expr:=if hd h=="congrArg" &&hd (h.getArg! 4)=="Eq" &&(h.getArg! 4).getAppNumArgs==n then some h.appArg! else none
 let s (k:Expr):Expr:=mkApp4 (.const ``Eq.symm u) f[0]! f[2]! c k
 if f.size !=3 then none else
 match hd p with
| "congrFun'" =>l as[4]! 1
| "congr" =>(l as[6]! 1).map fun h=>mkAppN (.const ``Eq.trans u) #[f[0]!,f[1]!,c,f[2]!,h,s as[7]!]
| _=>(l p 2).map s
def On:Nat->Expr->Option Expr
| k+1,e=>if e.isBinding then On k e.bindingBody! else none
| _,e=>some e
def Pc (e f:Expr) (as:Array Expr):MetaM (Option Expr):=do
 let n:=as.size
 let a (i:Nat):Expr:=as[i]!
 let rest (i:Nat):Array Expr:=as.extract i n
 match f with
| .lam _ t b _=>if <-isProp t then return none else return some ((b.instantiate1 (a 0)).beta (rest 1))
| .const c us=>
  match hd f with
  | "id" =>return if n>=2 then some ((a 1).beta (rest 2)) else none
  | "And.casesOn" =>
   if n<5 then return none
   return some (Kn (mkApp2 (cn "And") (a 0) (a 1)) ((a 4).beta #[.proj ``And 0 (.bvar 0),.proj ``And 1 (.bvar 0)]) (a 3) (rest 5))
  | "Eq.mpr" =>
   if n !=4 then return none
   let p:=if hd (a 2)=="id" then (a 2).appArg! else a 2
   let c:=p.getAppArgs
   if hd p=="congrArg" &&c.size==6 then return some (mkAppN (.const `Cz.rwg [p.getAppFn.constLevels!.head!]) #[c[0]!,c[4]!,c[2]!,c[3]!,c[5]!,a 3])
   else return none
  | "Exists.intro" =>
   let E:=mkApp2 (.const ``Exists us) (a 0) (a 1)
   let (ws,h):=Fm (min 8 (MV 8 E).1.length) e
   let k:=ws.length
   if k<2 then return none
   let (ts,q):=MV k E
   return some (mkAppN (cn s!"Cz.in{k}") ((ts++IT ts q::ws).toArray.push h))
  | "Eq.casesOn" =>
   if n !=8 ||!(a 5).isLambda then return none
   match On 4 (a 2) with
   | some g=>
    if (aN 4).any g.hasLooseBVar then return none
    Pi (A2 60 0 ((a 5).bindingBody!.instantiate1 (mkApp4 (.const ``Eq.symm us.tail!) (a 0) (a 1) (a 3) (a 4))))
   | none=>return none
  | "Exists.casesOn" =>
   if n<5 then return none
   let E:=mkApp2 (.const ``Exists us) (a 0) (a 1)
   let (k,r):=Ky (MV 7 E).1.length (a 4)
   let (ts,q):=MV k E
   let is <-ts.mapM ne
   if ts.isEmpty ||is.any Option.isNone then return none
   let us:=ts.zip (is.map Option.get!)
   let P:=if k==1 then a 1 else IT ts q
   let xs:=(xo (call "w" us P) (k-1)).toArray
   return some (Kn (mkAppN P xs).headBeta (r.beta (xs.push (.bvar 0))) (.app (call "ex" us P) (a 3)) (rest 5))
  | _=>
   match Match.Extension.getMatcherInfo? (<-getEnv) c with
   | some i=>if i.numAlts==1&&n>=i.arity then return some ((<-instantiateValueLevelParams (<-getConstInfo c) us).beta as) else return none
   | none=>return none
| _=>return none
def pre (e:Expr):MetaM (Option Expr):=do
 match e with
| .mdata _ b=>return some b
| .letE n t v b _=>if <-isProp t then return some (.app (.lam n t b .default) v) else return some (b.instantiate1 v)
| .lam _ t _ _=>if <-isProp t then return none else Ka e none
| .app .. =>Pc e e.getAppFn e.getAppArgs
| _=>return none
def Nf (ft:Expr):List Expr->MetaM (List Expr)
| []=>return []
| x::l=>do
  match ft with
  | .forallE _ t b _=>
   let y <-(do
    if !x.isLambda then return x
    if <-isProp x.bindingDomain! then return x
    if <-isProof x then return (<-Ka x (some t)).getD x
    return x)
   return y::(<-Nf (b.instantiate1 x) l)
  | _=>return x::l
def step (e:Expr):MetaM TransformStep:=do
 if e.isFVar ||e.isConst ||e.isSort ||e.isLit ||e.isBVar then return .done e
 if !(<-isProof e) then return .done e
 if vQ (hd e) "congrArg congr congrFun congrFun' Eq.trans Eq.symm" then
  match (<-inferType e).eq? with
  | some (T,a,b)=>if <-same a b then return .done (mkApp2 (.const ``Eq.refl [<-getLevel T]) T a)
  | none=>pure ()
 match <-pre e with
| some r=>return .visit r
| none=>match e with
  | .lam n t b bi=>return .continue (some (.lam n t (if b.isLambda then .mdata {} b else b) bi))
  | .app .. =>
   let f:=e.getAppFn
   if f.isConst then return .continue (some (mkAppN f (<-Nf (<-inferType f) e.getAppArgs.toList).toArray)) else return .continue
  | _=>return .continue
def OE:Nat->Expr->Nat
| k+1,e=>if !e.hasLooseBVars&&!e.hasFVar then 0 else match e with
  | .app f a=>OE k f+OE k a+1
  | .proj _ _ b=>OE k b+1
  | .bvar _ | .fvar _=>0
  | _=>100
| _,_=>100
def post (e:Expr):MetaM TransformStep:=do
 match e with
| .app (.lam _ t b bi) v=>return .done (if !b.hasLooseBVar 0 then b else if OE 12 v<=4 then b.instantiate1 v else .app (.lam `h t b bi) v)
| .app .. =>
  let as:=e.getAppArgs
  let n:=as.size
  let a (i:Nat):Expr:=as[i]!
  let us:=match e.getAppFn with | .const _ us=>us | _=>[]
  let r:MetaM Expr:=do
   match hd e with
   | "Eq.ndrec" =>
    let .lam x t m bi:=a 2 | return e
    let (ps,m,k):=drop (as.extract 6 n).toList m (a 3)
    return GW us.tail! (a 0) (a 1) (.lam x t m bi) k (a 4) (a 5) ps.toArray
   | "Eq.mp" =>
    if <-same (a 0) (a 1) then return mkAppN (a 3) (as.extract 4 n)
    let c:=(a 2).getAppArgs
    return if hd (a 2)=="congrArg" &&c.size==6 then GW [(a 2).getAppFn.constLevels!.head!] c[0]! c[2]! c[4]! (a 3) c[3]! c[5]! (as.extract 4 n) else e
   | "Cz.rwg" =>
    if <-same (a 2) (a 3) then return mkAppN (a 5) (as.extract 6 n)
    return match Be "Eq.symm" (a 4) with
    | some p=>GW us (a 0) (a 3) (a 1) (a 5) (a 2) p (as.extract 6 n)
    | none=>e
   | "Eq.trans" =>return if hd (a 4)=="Eq.refl" then a 5 else if hd (a 5)=="Eq.refl" then a 4 else e
   | "of_eq_true" =>
    let c:=(a 1).getAppArgs
    return if hd (a 1)=="Eq.trans" &&c.size==6&&hd c[5]! =="eq_self" &&hd (a 0)=="Eq" then (OP (a 0) c[4]! c[5]!.appArg!).getD e else e
   | _=>return e
  return .done (<-(if e.getAppFn.isConst&&n > 1 then r else return e))
| _=>return .done e
def run (v:Expr):MetaM Expr:=Meta.transform v step post
def size (e:Expr):MetaM Nat:=(ShareCommon.shareCommon' e).numObjs
def b (n:Nat):Elab.Tactic.TacticM Unit:=Elab.Tactic.withMainContext do
 let g <-Elab.Tactic.getMainGoal
 let m <-mkFreshExprMVar (<-g.getType) .syntheticOpaque `cz1
 g.setUserName `cz0
 let r <-mkFreshExprMVar (<-g.getType) .syntheticOpaque
 m.mvarId!.assign r
 let (_,m') <-r.mvarId!.introNP n
 Elab.Tactic.setGoals [m']
def e:Elab.Tactic.TacticM Unit:=do
 let c <-getMCtx
 let g:=(c.findUserName? `cz0).get!
 g.withContext do
  let xs <-getLocalHyps
  let w <-mkLambdaFVars xs (<-instantiateMVars (.mvar (c.findUserName? `cz1).get!))
  let w' <-run w
  g.assign (mkAppN (if (<-size w')<(<-size w) then w' else w) xs)
  Elab.Tactic.setGoals []
end Cz
local macro_rules | `(tactic| rfl') => `(tactic| kernel_rfl)
local macro_rules | `(tactic| iterate $n:num $t:tacticSeq) => `(tactic| ((run_tac Cz.b $n); ($t); (run_tac Cz.e)))
local macro_rules | `(tactic| omega) => `(tactic| first | run_tac Om.go | lia | run_tac Lean.Elab.Tactic.Omega.omegaTactic {})
set_option backward.match.sparseCases false
namespace MP.Lake
open PySem
set_option genCtorIdx true in
inductive D where
| none
| bool (b:Bool)
| int (i:Int)
| str (s:List Nat)
| tup (xs:List D)
| lst (xs:List D)
| QH (QC:List (Int×Int))
| rng (a b:Int)
| loc (i:Nat)
| tab
| Sq
| raw (a:Nat)
 deriving Inhabited
noncomputable def oN:D->Option Int
| .int i=>some i
| _=>aa
noncomputable def qx (d:D):Option Nat:=(oN d).bind fun i=>if 0<=i then some i.toNat else aa
noncomputable def sX:D->Option Bool
| .bool b=>some b
| _=>aa
noncomputable def xD:D->Option Nat
| .loc i=>some i
| _=>aa
noncomputable def sI:D->Option (List Nat)
| .str s=>some s
| _=>aa
noncomputable def tw:D->Option (List D)
| .lst s=>some s
| _=>aa
noncomputable def CZ:D->Option (List D)
| .tup s=>some s
| _=>aa
noncomputable def FA:D->Option (List (Int×Int))
| .QH s=>some s
| _=>aa
noncomputable def isNone:D->Option Unit
| .none=>some ()
| _=>aa
noncomputable def sy {α:Type}:List α->Option Unit
| []=>some ()
| _::_=>aa
noncomputable def vO {α:Type}:List α->Option (α×List α)
| []=>aa
| a::r=>some (a,r)
noncomputable def uA {α:Type} (l:List α):Option α:=(vO l).bind fun q=>(sy q.2).bind fun _=>some q.1
noncomputable def BB {α:Type} (l:List α):Option (α×α):=(vO l).bind fun q=>(uA q.2).bind fun b=>some (q.1,b)
noncomputable def wT (f:D->D->Option Bool):List D->List D->Option Bool
| [],bs=>(sy bs).bind fun _=>some true
| a::as,bs=>(vO bs).bind fun q=>(f a q.1).bind fun x=>(wT f as q.2).bind fun y=>some (x&&y)
noncomputable def tH (a b:List (Int×Int)):Bool:=a.length==b.length&&a.all fun p=>b.lookup p.1==some p.2
noncomputable def ru:Nat->D->D->Option Bool
| 0,_,_=>aa
| k+1,a,b=>match a with
  | .none=>(isNone b).bind fun _=>some true
  | .bool a=>(sX b).bind fun b=>some (a==b)
  | .int a=>(oN b).bind fun b=>some (a==b)
  | .str a=>(sI b).bind fun b=>some (a==b)
  | .tup a=>(CZ b).bind fun b=>if a.length=b.length then wT (ru k) a b else aa
  | .lst a=>(tw b).bind fun b=>if a.length=b.length then wT (ru k) a b else some false
  | _=>aa
set_option genCtorIdx true in
inductive MO where
| lex (line:Int) (src:Option Nat) (pb:List D)
| sg (cs:List Nat)
| Qz (rows:List (List D))
 deriving Inhabited
set_option genCtorIdx true in
inductive OW where
| lst (xs:List D)
| QH (QC:List (Int×Int))
 deriving Inhabited
noncomputable abbrev G:=List MO
noncomputable def put (k v:Int):List (Int×Int)->List (Int×Int)
| []=>[(k,v)]
| p::r=>if p.1=k then (k,v)::r else p::put k v r
noncomputable def pZ:Nat->List Nat->List D
| _,[]=>[]
| p,[c]=>[.tup [.int p,.str [c]]]
| p,c::d::r=>if c=92 then .tup [.int (p+1:Nat),.str [92,d]]::pZ (p+2) r else .tup [.int p,.str [c]]::pZ (p+1) (d::r)
noncomputable def units (s:List Nat):List D:=pZ 0 s
noncomputable def pH:Nat->Nat->Nat->List Int -- least first
| 0,_,_=>[]
| k+1,b,a=>((a % b:Nat):Int)::pH k b (a / b)
noncomputable def dL (a:Nat):Nat:=if a=0 then 0 else nH a+1
noncomputable def na:List Int->Int->Int
| [],_=>0
| d::r,b=>d+b * na r b
noncomputable def qE (c:Nat):Bool:=c==10 ||c==9 ||c==13 ||c==32
noncomputable def tA:List Nat->List Nat->Int->List Nat×List Nat×Int
| [],acc,ln=>(acc,[],ln)
| c::r,acc,ln=>
  let ln':=if c=10 then ln+1 else ln
  if c=34 then (acc,r,ln')
  else if c=92 then match r with
   | []=>(acc,[],ln')
   | d::r'=>tA r' (acc++[d]) (if d=10 then ln'+1 else ln')
  else tA r (acc++[c]) ln'
noncomputable def sF:List Nat->List Nat->Int->List Nat×List Nat×Int
| [],acc,ln=>(acc,[],ln)
| c::r,acc,ln=>
  let ln':=if c=10 then ln+1 else ln
  if qE c then (acc,r,ln')
  else if c=92 then match r with
   | []=>(acc,[],ln')
   | d::r'=>sF r' (acc++[d]) (if d=10 then ln'+1 else ln')
  else sF r (acc++[c]) ln'
noncomputable def tok:List Nat->Int->List Nat×List Nat×Int
| [],ln=>([],[],ln)
| c::r,ln=>
  let ln':=if c=10 then ln+1 else ln
  if qE c then tok r ln'
  else if c=34 then tA r [] ln'
  else if c=92 then match r with
   | []=>([],[],ln')
   | d::r'=>sF r' [d] (if d=10 then ln'+1 else ln')
  else sF r [c] ln'
noncomputable def pN (n:Nat) (i:Int):Nat:=if i<0 then (i+n).toNat else min i.toNat n
noncomputable def oU (n:Nat):Option Int->Nat
| some i=>pN n i
| none=>0
noncomputable def o7 (n:Nat):Option Int->Nat
| some i=>pN n i
| none=>n
noncomputable def slice {α:Type} (xs:List α) (lo hi:Option Int):List α:=(xs.take (o7 xs.length hi)).drop (oU xs.length lo)
noncomputable def xr (sep:List Nat):List D->Option (List Nat)
| []=>some []
| d::r=>(sI d).bind fun x=>match r with
  | []=>some x
  | _::_=>(xr sep r).bind fun y=>some (x++sep++y)
noncomputable def lim:Nat:=1048576
noncomputable def lw (a:Int):Bool:=decide (a.natAbs<18446744073709551616)
noncomputable def E4 (s:List Nat):Option D:=if s.length<=lim then some (.str s) else aa
noncomputable def EX (s:List D):Option D:=if s.length<=lim then some (.lst s) else aa
noncomputable def By (s:List Nat):Option D:=
 if (fK ⟨s.toArray⟩ (s.length+1)==[(0,s.length)])=true then aa
 else if (mR ⟨s.toArray⟩).all fun x=>decide (x.length<=lim) then EX ((mR ⟨s.toArray⟩).map fun x=> .str x.cps.toList)
 else aa
noncomputable def sT (c:Nat) (s:List Nat):Int:=(s.filter (· ==c)).length
noncomputable def tg:List D->Option (List Int)
| []=>some []
| d::r=>(oN d).bind fun i=>(tg r).bind fun l=>some (i::l)
noncomputable def zO (f:Int->Int->Option D) (a b:D):Option D:=(oN a).bind fun i=>(oN b).bind fun j=>f i j
noncomputable def Nx (a b:D):Option D:=match a with
| .int i=>(oN b).bind fun j=>some (.int (i+j))
| .str s=>(sI b).bind fun t=>E4 (s++t)
| .lst x=>(tw b).bind fun y=>EX (x++y)
| _=>aa
noncomputable def binop (op:iE) (a b:D):Option D:=match op with
| .Add=>Nx a b
| .Sub=>zO (fun a b=>some (.int (a-b))) a b
| .Mult=>zO (fun a b=>if lw b ||lw a then some (.int (a * b)) else aa) a b
| .FloorDiv=>zO (fun a b=>if b≠0/\lw b then some (.int (aL a b)) else aa) a b
| .Mod=>zO (fun a b=>if b≠0 then some (.int (aQ a b)) else aa) a b
| .Pow=>zO (fun a b=>if 0<=b/\b<=1000000/\lw a then some (.int (a ^ b.toNat)) else aa) a b
| .LShift=>zO (fun a b=>if 0<=b/\b<=1000000/\lw a then some (.int (a * 2 ^ b.toNat)) else aa) a b
| .RShift=>zO (fun a b=>if 0<=b then some (.int (aL a (2 ^ b.toNat))) else aa) a b
| .BitAnd=>zO (fun a b=>if 0<=a/\b=1 then some (.int (aQ a 2)) else aa) a b
| _=>aa
noncomputable def HU:Expr->List (List Nat×Expr)
| .Dict ks vs _=>(ks.zip vs).filterMap fun (k,v)=>match k with | some (.Constant (.str s) _ _)=>some (s.cps.toList,v) | _=>aa
| _=>[]
noncomputable def qI:Expr->Option Str
| .Name x _=>some x
| _=>aa
noncomputable def J5:Stmt->Option (List Expr×Expr)
| .Assign ts v _=>some (ts,v)
| _=>aa
noncomputable def Nb (st:Stmt):Option (Str×Expr):=(J5 st).bind fun q=>(uA q.1).bind fun t=>(qI t).bind fun y=>some (y,q.2)
noncomputable def wg (p:bY) (x:Str):Option Expr:=p.main.body.findSome? fun st=>(Nb st).bind fun q=>if q.1==x then some q.2 else aa
noncomputable def tI (p:bY) (x:Str):Option Int:=match wg p x with
| some (.Constant (.int i) _ _)=>some i
| _=>aa
noncomputable def qm (p:bY):List (List Nat×Int):=match wg p "EXACT_TOKEN_TYPES" with
| some e=>(HU e).filterMap fun (s,v)=>match v with | .Name n _=>(tI p n).map (s,·) | _=>aa
| aa=>[]
noncomputable def Po (a b:D):Option Bool:=match a with
| .QH x=>(FA b).bind fun y=>some (tH x y)
| _=>ru 6 a b
noncomputable def PP (a b:D):Option Bool:=match a with
| .none=>(isNone b).bind fun _=>some true
| .int _=>(isNone b).bind fun _=>some false
| .bool a=>(sX b).bind fun b=>some (a==b)
| _=>aa
noncomputable def OR (a b:D):Option Bool:=(sI a).bind fun s=>(uA s).bind fun c=>(sI b).bind fun b=>some (decide (c∈b))
noncomputable def Qi (p:bY) (a b:D):Option Bool:=match b with
| .tab=>(sI a).bind fun s=>some ((qm p).lookup s).isSome
| _=>OR a b
noncomputable def cmp (p:bY) (op:CmpOp) (a b:D):Option Bool:=match op with
| .Eq=>Po a b
| .NotEq=>(Po a b).bind fun x=>some (!x)
| .Lt=>(oN a).bind fun i=>(oN b).bind fun j=>some (decide (i<j))
| .LtE=>(oN a).bind fun i=>(oN b).bind fun j=>some (decide (i<=j))
| .GtE=>(oN a).bind fun i=>(oN b).bind fun j=>some (decide (j<=i))
| .Is=>PP a b
| .IsNot=>(sX a).bind fun a=>(sX b).bind fun b=>some (!(a==b))
| .In=>Qi p a b
| .NotIn=>(OR a b).bind fun x=>some (!x)
| _=>aa
set_option genInjectivity false in
structure Fn where
 params:List Str
 scope:aX
 body:List Stmt
noncomputable def vZ (b:List Stmt) (x:Str):Option Fn:=b.findSome? fun
| .FunctionDef y a b _ _ _ sc _ _ _=>if y==x then some ⟨a.args.map (·.arg),sc,b⟩ else aa
| _=>aa
noncomputable def pC (p:bY) (c:Str):List Stmt:=(p.main.body.findSome? fun
| .ClassDef y _ _ b _ _ _ _ _ _ _=>if y==c then some b else aa
| _=>aa).getD []
noncomputable def pd (p:bY) (x:Str):Option Fn:=vZ p.main.body x
noncomputable def OS :Expr->Option (dD×Expr×aX×Pos)
| .Lambda a b sc pos=>some (a,b,sc,pos)
| _=>aa
noncomputable def Kh (b:List Stmt):Option (dD×Expr×aX×Pos):=b.findSome? fun s=>(J5 s).bind fun q=>OS q.2
noncomputable def vY (env:Env):Expr->Option (aX×Pos×Sem ag×Sem ag)
| .ListComp _ gens Qm pos=>some (Qm,firstIterPos gens pos,newList [],firstIter gens env)
| .DictComp _ _ gens Qm pos=>some (Qm,firstIterPos gens pos,newDict,firstIter gens env)
| _=>aa
noncomputable abbrev Qr:=List (Str×D)
structure St where
 ρ:Qr
 up:Qr
 own:Option (Str×OW)
noncomputable def St.withRho (st:St) (ρ:Qr):St:=⟨ρ,st.up,st.own⟩
noncomputable def varD (sc:aX) (st:St) (x:Str):Option D:=match sc.names.lookup x with
| some .free=>st.up.lookup x
| some .local=>st.ρ.lookup x
| some .cell=>st.ρ.lookup x
| _=>aa
noncomputable def St.comp (sc Qm:aX) (st:St):St:=⟨[],Qm.names.filterMap fun p=>if p.2== .free then (varD sc st p.1).map (p.1,·) else aa,aa⟩
noncomputable def St.freeze (st:St):St:=match st.own with
| some (x,.lst xs)=>⟨(x,.lst xs)::st.ρ,st.up,aa⟩
| some (x,.QH QC)=>⟨(x,.QH QC)::st.ρ,st.up,aa⟩
| aa=>st
noncomputable def yP:List Expr->List D->Qr->Option Qr
| [],ds,ρ=>(sy ds).bind fun _=>some ρ
| t::ts,ds,ρ=>(qI t).bind fun x=>(vO ds).bind fun q=>yP ts q.2 ((x,q.1)::ρ)
noncomputable def Kv:D->Option (List D)
| .tup ds=>some ds
| .lst ds=>some ds
| _=>aa
noncomputable def bn (t:Expr) (d:D) (ρ:Qr):Option Qr:=match t with
| .Name x _=>some ((x,d)::ρ)
| .Tuple ts _ _=>(Kv d).bind fun ds=>yP ts ds ρ
| _=>aa
set_option genCtorIdx true in
inductive Fl where
| next | ret (d:D)
 deriving Inhabited
noncomputable def vH:Nat->Int->List D
| 0,_=>[]
| n+1,a=> .int a::vH n (a+1)
noncomputable def y7 (a b:Int):Bool:=decide (-4611686018427387904<=a/\a<4611686018427387904/\ -4611686018427387904<=b/\b<4611686018427387904/\(b-a).toNat<=lim)
noncomputable def itemsOf:D->Option (List D)
| .lst xs=>some xs
| .tup xs=>some xs
| .QH QC=>some (QC.map fun p=> .int p.1)
| .rng a b=>if y7 a b then some (vH (b-a).toNat a) else aa
| .str s=>some (s.map fun c=> .str [c])
| _=>aa
noncomputable def Mi:Const->Option D
| .none=>some .none
| .bool b=>some (.bool b)
| .int i=>some (.int i)
| .str s=>E4 s.cps.toList
| _=>aa
noncomputable def nameD (p:bY) (sc:aX) (st:St) (x:Str):Option D:=match sc.names.lookup x with
| some .globalImplicit=>if x==("EXACT_TOKEN_TYPES" :Str) then some .tab else if x==("int" :Str) then some .Sq else (tI p x).map .int
| some .free=>st.up.lookup x
| some .local=>st.ρ.lookup x
| some .cell=>st.ρ.lookup x
| _=>aa
noncomputable def qb (sc:aX) (x:Str):Bool:=match sc.names.lookup x with
| some .globalImplicit=>true
| _=>false
noncomputable def subD (p:bY) (a i:D):Option D:=match a with
| .lst xs=>(qx i).bind fun k=>xs[k]?
| .tup xs=>(qx i).bind fun k=>xs[k]?
| .str xs=>(qx i).bind fun k=>xs[k]?.bind fun c=>some (.str [c])
| .QH QC=>(oN i).bind fun k=>(QC.lookup k).bind fun v=>some (.int v)
| .tab=>(sI i).bind fun s=>((qm p).lookup s).bind fun v=>some (.int v)
| _=>aa
noncomputable def zb:MO->Option (Int×Option Nat×List D)
| .lex ln src pb=>some (ln,src,pb)
| _=>aa
noncomputable def AO:MO->Option (List Nat)
| .sg cs=>some cs
| _=>aa
noncomputable def sN:MO->Option (List (List D))
| .Qz rows=>some rows
| _=>aa
noncomputable def xz (g:G) (a:D) (lo hi:Option Int):Option D:=match a with
| .lst xs=>some (.lst (slice xs lo hi))
| .str xs=>some (.str (slice xs lo hi))
| .loc j=>g[j]?.bind fun o=>(AO o).bind fun cs=>some (.lst (slice (cs.map fun c=> .str [c]) lo hi))
| _=>aa
noncomputable def N7 (g:G) (i:Nat) (ln:Int) (j:Nat):Option (D×G):=g[j]?.bind fun o=>(AO o).bind fun cs=>some (.str (tok cs ln).1,(g.set j (.sg (tok cs ln).2.1)).set i (.lex (tok cs ln).2.2 (some j) []))
noncomputable def w0 (g:G) (i:Nat):Option (D×G):=g[i]?.bind fun o=>(zb o).bind fun q=>match q.2.2 with
| t::r=>some (t,g.set i (.lex q.1 q.2.1 r))
| []=>q.2.1.bind fun j=>N7 g i q.1 j
noncomputable def wF (g:G) (i:Nat):Option (D×G):=g[i]?.bind fun o=>(zb o).bind fun q=>q.2.1.bind fun j=>g[j]?.bind fun o=>(AO o).bind fun cs=>match cs with
| []=>some (.str [],g)
| c::r=>some (.str [c],if c=10 then (g.set j (.sg r)).set i (.lex (q.1+1) (some j) q.2.2) else g.set j (.sg r))
noncomputable def Lm (g:G) (j:Nat):Option (D×G):=g[j]?.bind fun o=>(AO o).bind fun cs=>(vO cs).bind fun q=>some (.str [q.1],g.set j (.sg q.2))
noncomputable def vq (m:Str) (g:G) (i:Nat):Option (D×G):=if m==("get_token" :Str) then w0 g i else if m==("_read_char" :Str) then wF g i else aa
noncomputable def kindOf:MO->Nat
| .lex _ _ _=>1
| .sg _=>2
| .Qz _=>3
noncomputable def qo (g:G):D->Option Nat
| .loc i=>g[i]?.map kindOf
| _=>some 0
noncomputable def KC (d:D) (g:G) (i:Nat):Option (D×G):=g[i]?.bind fun o=>(zb o).bind fun q=>if q.2.2.length<lim then some (.none,g.set i (.lex q.1 q.2.1 (q.2.2++[d]))) else aa
noncomputable def H5 (m:Str) (i:Nat) (ds:List D) (g:G):Option (D×G):=match ds with
| []=>vq m g i
| d::r=>(sy r).bind fun _=>if m==("push_token" :Str) then KC d g i else if m==("pop" :Str) then (oN d).bind fun k=>if k=0 then Lm g i else aa else aa
noncomputable def zP (m:Str) (s:List Nat) (ds:List D) (g:G):Option (D×G):=
 if m==("join" :Str) then (uA ds).bind fun d=>(tw d).bind fun xs=>(xr s xs).bind fun r=>(E4 r).bind fun d=>some (d,g)
 else if m==("split" :Str) then (sy ds).bind fun _=>(By s).bind fun d=>some (d,g)
 else if m==("count" :Str) then (uA ds).bind fun d=>(sI d).bind fun t=>(uA t).bind fun c=>some (.int (sT c s),g)
 else aa
noncomputable def methD (m:Str) (a:D) (ds:List D) (g:G):Option (D×G):=match a with
| .str s=>zP m s ds g
| .lst xs=>if m==("count" :Str) then (uA ds).bind fun d=>(oN d).bind fun i=>(tg xs).bind fun l=>some (.int ((l.filter (· ==i)).length),g) else aa
| .QH QC=>if m==("get" :Str) then (BB ds).bind fun q=>(oN q.1).bind fun k=>(oN q.2).bind fun d=>some (.int ((QC.lookup k).getD d),g) else aa
| .int i=>if m==("bit_length" :Str) then (sy ds).bind fun _=>some (.int (dL i.natAbs),g) else aa
| .loc i=>H5 m i ds g
| _=>aa
noncomputable def J8 (m:Str):Nat:=if m==("get_token" :Str) then 40 else if m==("_read_char" :Str) then 15 else if m==("push_token" :Str) then 10 else 0
noncomputable def qS (ds:List D) (g:G):Option (D×G):=(BB ds).bind fun q=>(oN q.1).bind fun a=>(oN q.2).bind fun m=>if 0<=a/\a<2 ^ 60/\1<=m/\m<=60 then some (.lst ((pH ((dL a.toNat+m.toNat-1) / m.toNat) (2 ^ m.toNat) a.toNat).map .int),g) else aa
noncomputable def qN (ds:List D) (g:G):Option (D×G):=(BB ds).bind fun q=>(tw q.1).bind fun xs=>(oN q.2).bind fun m=>(tg xs).bind fun l=>if 1<=m/\l.length * m.toNat<=60/\l.all (fun d=>decide (0<=d/\d<2 ^ m.toNat))=true then some (.int (na l (2 ^ m.toNat)),g) else aa
noncomputable def uZ (ds:List D) (g:G):Option (D×G):=(uA ds).bind fun d=>(sI d).bind fun s=>some (.loc (g.length+1),g++[.sg s,.lex 1 (some g.length) []])
noncomputable def rO (ds:List D) (g:G):Option (D×G):=(uA ds).bind fun d=>(isNone d).bind fun _=>some (.loc g.length,g++[.lex 1 aa []])
noncomputable def OY (g:G) (d:D):Option Nat:=match d with
| .lst xs=>some xs.length
| .str xs=>some xs.length
| .loc i=>g[i]?.bind fun o=>(sN o).bind fun rows=>some rows.length
| _=>aa
noncomputable def Bu (ds:List D) (g:G):Option (D×G):=(uA ds).bind fun d=>(OY g d).bind fun n=>some (.int n,g)
noncomputable def Bb (ds:List D) (g:G):Option (D×G):=(vO ds).bind fun q=>(oN q.1).bind fun a=>match q.2 with
| []=>some (.rng 0 a,g)
| b::r=>(sy r).bind fun _=>(oN b).bind fun b=>some (.rng a b,g)
noncomputable def uf (ds:List D) (g:G):Option (D×G):=(uA ds).bind fun d=>(tw d).bind fun xs=>(tg xs).bind fun l=>if l.all fun i=>decide (i.natAbs<1099511627776) then some (.int l.sum,g) else aa
noncomputable def FN:D->Option (Int×Int)
| .rng a b=>some (a,b)
| _=>aa
noncomputable def Dp (ds:List D) (g:G):Option (D×G):=(uA ds).bind fun d=>(FN d).bind fun q=>if y7 q.1 q.2 then some (.lst (vH (q.2-q.1).toNat q.1),g) else aa
noncomputable def Ac:D->Option Unit
| .Sq=>some ()
| _=>aa
noncomputable def uD (ds:List D) (g:G):Option (D×G):=(BB ds).bind fun q=>(Ac q.2).bind fun _=>match q.1 with
| .int _=>some (.bool true,g)
| .lst _=>some (.bool false,g)
| _=>aa
noncomputable def we (ds:List D) (g:G):Option (D×G):=(BB ds).bind fun q=>(oN q.1).bind fun a=>(oN q.2).bind fun b=>if b≠0/\lw b then some (.tup [.int (aL a b),.int (aQ a b)],g) else aa
noncomputable def special (f:Str):Option (List D->G->Option (D×G)):=
 if f==("_int2digits" :Str) then some qS
 else if f==("_digits2int" :Str) then some qN
 else if f==("_law_lexer" :Str) then some uZ
 else if f==("_netrclex" :Str) then some rO
 else if f==("len" :Str) then some Bu
 else if f==("range" :Str) then some Bb
 else if f==("sum" :Str) then some uf
 else if f==("list" :Str) then some Dp
 else if f==("isinstance" :Str) then some uD
 else if f==("divmod" :Str) then some we
 else aa
noncomputable def re (b:Bool):Option Unit:=if b then some () else aa
noncomputable def iterLoop {σ:Type} (step:D->σ->G->Option (σ×G×Option D)):List D->σ->G->Option (σ×G×Option D)
| [],s,g=>some (s,g,aa)
| d::ds,s,g=>(step d s g).bind fun x=>match x.2.2 with
  | aa=>iterLoop step ds x.1 x.2.1
  | some _=>some x
noncomputable def qt (st:St) (y:Str) (o:OW):St:=⟨st.ρ,st.up,some (y,o)⟩
noncomputable def Rw (st:St) (x:Str) (o:OW):Option St:=match st.freeze.ρ.lookup x with
| aa=>some ⟨st.freeze.ρ,st.up,some (x,o)⟩
| _=>aa
noncomputable def oS (st:St) (x:Str):Bool:=match st.own with
| some (y,_)=>y !=x
| aa=>true
noncomputable def oV:Expr->List Str
| .Name x _=>[x]
| .Tuple es _ _=>es.filterMap qI
| _=>[]
noncomputable def mt (x:Str):Bool:=!(x==("__debug__" :Str))&&!(x==("__classdict__" :Str))
noncomputable def pP (sc:aX) (x:Str):Bool:=match sc.names.lookup x with
| some .local=>true
| some .cell=>true
| _=>false
noncomputable def yA (sc:aX) (x:Str):Bool:=match sc.names.lookup x with
| some .free=>true
| some .cell=>true
| _=>false
noncomputable def db:List Str->Bool
| []=>true
| x::r=>!(r.contains x)&&db r
noncomputable def p9 (sc:aX) (st:St) (t:Expr):Bool:=((oV t).all fun x=>oS st x&&pP sc x)&&db (oV t)
noncomputable def yE (sc Qm:aX):Bool:=Qm.kind== .function&&Qm.names.all fun p=>Qm.names.lookup p.1==some p.2&&!(p.2== .cell)&&(!(p.2== .free) ||sc.names.lookup p.1==some .cell ||sc.names.lookup p.1==some .free)
noncomputable def tM (Qm:aX) (t:Expr):Bool:=((oV t).all fun x=>Qm.names.lookup x==some .local)&&db (oV t)
noncomputable def uT:Expr->Bool
| .Tuple vs _ _=>!(vs.all (constantsAlone 8))
| _=>true
noncomputable def Oi (op:UnaryOp) (a:D):Option D:=match op with
| .USub=>(oN a).bind fun i=>some (.int (-i))
| .Invert=>(oN a).bind fun i=>some (.int (-i-1))
| _=>aa
noncomputable def I8 (a:D):Option D:=(tw a).bind fun xs=>some (.lst xs.reverse)
noncomputable def yg (a:Str) (o:MO):Option D:=(zb o).bind fun q=>if a==("lineno" :Str) then some (.int q.1) else if a==("whitespace" :Str) then some (.str [10,9,13,32]) else aa
noncomputable def N4:Fl->Option D
| .ret d=>some d
| .next=>aa
noncomputable def Fr:Fl->Option Unit
| .next=>some ()
| .ret _=>aa
noncomputable def rS:Fl->Option D
| .next=>aa
| .ret d=>some d
noncomputable def E6:Option D->Fl
| aa=> .next
| some d=> .ret d
noncomputable def Ow:OW->Option (List (Int×Int))
| .QH QC=>some QC
| .lst _=>aa
noncomputable def Oo:OW->Option (List D)
| .lst xs=>some xs
| .QH _=>aa
noncomputable def tX (st:St) (x:Str):Option (List (Int×Int)):=st.own.bind fun q=>if x==q.1 then Ow q.2 else aa
noncomputable def tQ (st:St) (x:Str):Option (List D):=st.own.bind fun q=>if x==q.1 then Oo q.2 else aa
noncomputable def Ou (QC:List (Int×Int)) (ds:List D):Option D:=(BB ds).bind fun q=>(oN q.1).bind fun k=>(oN q.2).bind fun d=>some (.int ((QC.lookup k).getD d))
noncomputable def ownMeth (m:Str) (xs:List D) (ds:List D):Option (List D):=match ds with
| []=>if m==("reverse" :Str) then some xs.reverse else aa
| d::r=>(sy r).bind fun _=>if m==("append" :Str) then (if xs.length<lim then some (xs++[d]) else aa) else if m==("extend" :Str) then (tw d).bind fun ys=>if (xs++ys).length<=lim then some (xs++ys) else aa else aa
noncomputable def Kg:List Expr->Bool
| []=>true
| _::_=>false
noncomputable def tK:Expr->Option (List Expr)
| .List es _=>some es
| _=>aa
noncomputable def dictOf:Expr->Option (List (Option Expr)×List Expr)
| .Dict ks vs _=>some (ks,vs)
| _=>aa
noncomputable def xA (e:Expr):Bool:=match dictOf e with
| some q=>q.1.isEmpty&&q.2.isEmpty
| aa=>false
noncomputable def BC:Expr->Option (Expr×List Expr×List Keyword)
| .Call f as ks _=>some (f,as,ks)
| _=>aa
noncomputable def yU:Expr->Option (Expr×Expr)
| .Subscript v i _=>some (v,i)
| _=>aa
noncomputable def qW (sc:aX) (f:Str) (e:Expr):Option Expr:=(BC e).bind fun q=>(qI q.1).bind fun x=>(uA q.2.1).bind fun a=>(sy q.2.2).bind fun _=>if qb sc x&&x==f then some a else aa
noncomputable def qk (p:bY) (sc:aX) (st:St) (e:Expr):Option (Nat×Expr):=(yU e).bind fun q=>(qI q.1).bind fun y=>if mt y then (nameD p sc st y).bind fun d=>(xD d).bind fun l=>some (l,q.2) else aa
noncomputable def inop (op:iE) (a b:D):Option D:=match op with
| .Add=>match a with
  | .lst _=>aa
  | _=>Nx a b
| .Sub=>binop .Sub a b
| _=>aa
noncomputable def zp:Expr->Bool
| .ListComp .. =>false
| .SetComp .. =>false
| .DictComp .. =>false
| _=>true
noncomputable def vV (zJ:St->G->Option (Bool×G)) (step:St->G->Option (Fl×St×G)):Nat->St->G->Option (Fl×St×G)
| 0,_,_=>aa
| k+1,st,g=>(zJ st g).bind fun b=>if b.1 then (step st b.2).bind fun x=>(Fr x.1).bind fun _=>vV zJ step k x.2.1 x.2.2 else some (.next,st,b.2)
noncomputable def wc (p:bY) (sc:aX) (st:St):List Expr->Option (List D)
| []=>some []
| e::r=>(qI e).bind fun x=>(re (mt x)).bind fun _=>(nameD p sc st x).bind fun d=>(wc p sc st r).bind fun ds=>some (d::ds)
set_option genInjectivity false in
inductive EV:Expr->Type
| const (c k p):EV (.Constant c k p)
| name (x p):EV (.Name x p)
| bin (l op r p):EV (.BinOp l op r p)
| un (op x p):EV (.UnaryOp op x p)
| ifx (t b o p):EV (.IfExp t b o p)
| RV (vs p):EV (.BoolOp .And vs p)
| cmp (l op r p):EV (.Compare l [op] [r] p)
| tup (es k p):EV (.Tuple es k p)
| lst (es p):EV (.List es p)
| slice (v lo hi sp p):EV (.Subscript v (.Slice lo hi none sp) p)
| rev (v q p1 p2 sp p):EV (.Subscript v (.Slice none none (some (.UnaryOp .USub (.Constant (.int 1) q p1) p2)) sp) p)
| sub (v i p):EV (.Subscript v i p)
| lc (elt t it ifs Qm p):EV (.ListComp elt [⟨t,it,ifs,0⟩] Qm p)
| SW (elt t it t2 it2 Qm p):EV (.ListComp elt [⟨t,it,[],0⟩,⟨t2,it2,[],0⟩] Qm p)
| dc (k v t it ifs Qm p):EV (.DictComp k v [⟨t,it,ifs,0⟩] Qm p)
| attr (x xp a p):EV (.Attribute (.Name x xp) a p)
| call (f fp as p):EV (.Call (.Name f fp) as [] p)
| Te (x xp m ap as p):EV (.Call (.Attribute (.Name x xp) m ap) as [] p)
| Wg (s q xp m ap as p):EV (.Call (.Attribute (.Constant (.str s) q xp) m ap) as [] p)
| other (e):EV e
noncomputable def NF (v:Expr) (p:Pos):(i:Expr)->EV (.Subscript v i p)
| .Slice lo hi none sp=> .slice v lo hi sp p
| .Slice none none (some (.UnaryOp .USub (.Constant (.int 1) q p1) p2)) sp=> .rev v q p1 p2 sp p
| .Slice .. => .other _
| i=> .sub v i p
noncomputable def My (as:List Expr) (p:Pos):(f:Expr)->EV (.Call f as [] p)
| .Name f fp=> .call f fp as p
| .Attribute (.Name x xp) m ap=> .Te x xp m ap as p
| .Attribute (.Constant (.str s) q xp) m ap=> .Wg s q xp m ap as p
| _=> .other _
noncomputable def ev:(e:Expr)->EV e
| .Constant c k p=> .const c k p
| .Name x p=> .name x p
| .BinOp l op r p=> .bin l op r p
| .UnaryOp op x p=> .un op x p
| .IfExp t b o p=> .ifx t b o p
| .BoolOp .And vs p=> .RV vs p
| .Compare l [op] [r] p=> .cmp l op r p
| .Tuple es k p=> .tup es k p
| .List es p=> .lst es p
| .Subscript v i p=>NF v p i
| .ListComp elt [⟨t,it,ifs,0⟩] Qm p=> .lc elt t it ifs Qm p
| .ListComp elt [⟨t,it,[],0⟩,⟨t2,it2,[],0⟩] Qm p=> .SW elt t it t2 it2 Qm p
| .DictComp k v [⟨t,it,ifs,0⟩] Qm p=> .dc k v t it ifs Qm p
| .Attribute (.Name x xp) a p=> .attr x xp a p
| .Call f as [] p=>My as p f
| _=> .other _
noncomputable def Cm:Expr->Bool
| .UnaryOp op _ _=>op != .Not
| .BoolOp .. =>false
| .IfExp .. =>false
| .Compare .. =>false
| _=>true
set_option genInjectivity false in
inductive TV:Expr->Type
| not (x p):TV (.UnaryOp .Not x p)
| UO (vs p):TV (.BoolOp .Or vs p)
| RV (vs p):TV (.BoolOp .And vs p)
| cmp (l op r p):TV (.Compare l [op] [r] p)
| plain (e) (h:Cm e=true):TV e
| other (e):TV e
noncomputable def tv:(e:Expr)->TV e
| .UnaryOp .Not x p=> .not x p
| .BoolOp .Or vs p=> .UO vs p
| .BoolOp .And vs p=> .RV vs p
| .Compare l [op] [r] p=> .cmp l op r p
| e=>if h:Cm e=true then .plain e h else .other e
set_option genInjectivity false in
inductive SV:Stmt->Type
| ret (e p):SV (.Return (some e) p)
| if_ (t b o p):SV (.If t b o p)
| Rl (t b p):SV (.While t b [] p)
| Sl (t it b p):SV (.For t it b [] p)
| asg (x xp e p):SV (.Assign [.Name x xp] e p)
| Zh (ts k tp e p):SV (.Assign [.Tuple ts k tp] e p)
| X8 (x xp i ip e p):SV (.Assign [.Subscript (.Name x xp) i ip] e p)
| aug (x xp op e p):SV (.AugAssign (.Name x xp) op e p)
| Zg (x xp i ip op e p):SV (.AugAssign (.Subscript (.Name x xp) i ip) op e p)
| Te (x xp m ap as cp p):SV (.Expr (.Call (.Attribute (.Name x xp) m ap) as [] cp) p)
| ext (t tp i ip m ap es lp cp p):SV (.Expr (.Call (.Attribute (.Subscript (.Name t tp) i ip) m ap) [.List es lp] [] cp) p)
| other (s):SV s
noncomputable def N5 (e:Expr) (p:Pos):(t:Expr)->SV (.Assign [t] e p)
| .Name x xp=> .asg x xp e p
| .Tuple ts k tp=> .Zh ts k tp e p
| .Subscript (.Name x xp) i ip=> .X8 x xp i ip e p
| _=> .other _
noncomputable def NV (op:iE) (e:Expr) (p:Pos):(t:Expr)->SV (.AugAssign t op e p)
| .Name x xp=> .aug x xp op e p
| .Subscript (.Name x xp) i ip=> .Zg x xp i ip op e p
| _=> .other _
noncomputable def Ml (p:Pos):(e:Expr)->SV (.Expr e p)
| .Call (.Attribute (.Name x xp) m ap) as [] cp=> .Te x xp m ap as cp p
| .Call (.Attribute (.Subscript (.Name t tp) i ip) m ap) [.List es lp] [] cp=> .ext t tp i ip m ap es lp cp p
| _=> .other _
noncomputable def sv:(s:Stmt)->SV s
| .Return (some e) p=> .ret e p
| .If t b o p=> .if_ t b o p
| .While t b [] p=> .Rl t b p
| .For t it b [] p=> .Sl t it b p
| .Assign [t] e p=>N5 e p t
| .AugAssign t op e p=>NV op e p t
| .Expr e p=>Ml p e
| _=> .other _
section
variable (p:bY)
set_option genInjectivity false in
structure Fs where
 e:aX->St->Expr->G->Option (D×G)
 t:aX->St->Expr->G->Option (Bool×G)
 UO:aX->St->List Expr->G->Option (Bool×G)
 Tq:aX->St->List Expr->G->Option (Bool×G)
 RV:aX->St->List Expr->G->Option (D×G)
 es:aX->St->List Expr->G->Option (List D×G)
 ifs:aX->St->List Expr->G->Option (Bool×G)
 opt:aX->St->Option Expr->G->Option (Option Int×G)
 call:Str->List D->G->Option (D×G)
 ss:aX->St->List Stmt->G->Option (Fl×St×G)
 Sl:aX->St->Expr->List D->List Stmt->G->Option (Fl×St×G)
 Rl:aX->St->Expr->List Stmt->G->Option (Fl×St×G)
 s:aX->St->Stmt->G->Option (Fl×St×G)
section
variable (F:Fs) (sc:aX) (st:St)
noncomputable def O4 (t elt:Expr) (ifs:List Expr) (Qm:aX) (d:D) (acc:List D) (g:G):Option (List D×G×Option D):=
 (bn t d []).bind fun ρ=>(F.ifs Qm ((st.comp sc Qm).withRho ρ) ifs g).bind fun b=>
  if b.1 then (F.e Qm ((st.comp sc Qm).withRho ρ) elt b.2).bind fun x=>some (acc++[x.1],x.2,aa) else some (acc,b.2,aa)
noncomputable def P9 (t2 elt:Expr) (Qm:aX) (ρ:Qr) (d2:D) (acc:List D) (g:G):Option (List D×G×Option D):=
 (bn t2 d2 ρ).bind fun ρ2=>(F.e Qm ((st.comp sc Qm).withRho ρ2) elt g).bind fun x=>some (acc++[x.1],x.2,aa)
noncomputable def PX (t it2 t2 elt:Expr) (Qm:aX) (d:D) (acc:List D) (g:G):Option (List D×G×Option D):=
 (bn t d []).bind fun ρ=>(F.e Qm ((st.comp sc Qm).withRho ρ) it2 g).bind fun x=>(itemsOf x.1).bind fun UI=>
  (iterLoop (P9 F sc st t2 elt Qm ρ) UI acc x.2).bind fun y=>some (y.1,y.2.1,aa)
noncomputable def PG (t k v:Expr) (ifs:List Expr) (Qm:aX) (d:D) (acc:List (Int×Int)) (g:G):Option (List (Int×Int)×G×Option D):=
 (bn t d []).bind fun ρ=>(F.ifs Qm ((st.comp sc Qm).withRho ρ) ifs g).bind fun b=>
  if b.1 then (F.e Qm ((st.comp sc Qm).withRho ρ) k b.2).bind fun x=>(F.e Qm ((st.comp sc Qm).withRho ρ) v x.2).bind fun y=>(oN x.1).bind fun x'=>(oN y.1).bind fun y'=>some (put x' y' acc,y.2,aa) else some (acc,b.2,aa)
noncomputable def ME (t:Expr) (body:List Stmt) (d:D) (st:St) (g:G):Option (St×G×Option D):=
 (re (p9 sc st t)).bind fun _=>(bn t d st.ρ).bind fun ρ=>(F.ss sc (st.withRho ρ) body g).bind fun x=>some (x.2.1,x.2.2,rS x.1)
noncomputable def AA (n:Nat) (g:G) {e:Expr} (v:EV e):Option (D×G):=EV.casesOn (motive:=fun _ _=>Option (D×G)) v
 (fun c _ _=>(Mi c).bind fun d=>some (d,g))
 (fun x _=>(re (mt x)).bind fun _=>(nameD p sc st x).bind fun d=>some (d,g))
 (fun l op r _=>(F.e sc st l g).bind fun a=>(F.e sc st r a.2).bind fun b=>(binop op a.1 b.1).bind fun d=>some (d,b.2))
 (fun op x _=>(F.e sc st x g).bind fun a=>(Oi op a.1).bind fun d=>some (d,a.2))
 (fun t b o _=>(F.t sc st t g).bind fun c=>if c.1 then F.e sc st b c.2 else F.e sc st o c.2)
 (fun vs _=>F.RV sc st vs g)
 (fun l op r _=>(F.e sc st l g).bind fun a=>(F.e sc st r a.2).bind fun b=>(cmp p op a.1 b.1).bind fun c=>some (.bool c,b.2))
 (fun es _ _=>(F.es sc st es g).bind fun x=>(re (x.1.length<=lim)).bind fun _=>some (.tup x.1,x.2))
 (fun es _=>(F.es sc st es g).bind fun x=>(EX x.1).bind fun d=>some (d,x.2))
 (fun v lo hi _ _=>(F.e sc st v g).bind fun a=>(F.opt sc st lo a.2).bind fun l=>(F.opt sc st hi l.2).bind fun h=>(xz h.2 a.1 l.1 h.1).bind fun d=>some (d,h.2))
 (fun v _ _ _ _ _=>(F.e sc st v g).bind fun a=>(I8 a.1).bind fun d=>some (d,a.2))
 (fun v i _=>(F.e sc st v g).bind fun a=>(F.e sc st i a.2).bind fun k=>(subD p a.1 k.1).bind fun d=>some (d,k.2))
 (fun elt t it ifs Qm _=>(re (yE sc Qm&&tM Qm t)).bind fun _=>(F.e sc st it g).bind fun x=>(itemsOf x.1).bind fun ds=>(iterLoop (O4 F sc st t elt ifs Qm) ds [] x.2).bind fun y=>(EX y.1).bind fun d=>some (d,y.2.1))
 (fun elt t it t2 it2 Qm _=>(re (yE sc Qm&&tM Qm t&&tM Qm t2&&db (oV t++oV t2))).bind fun _=>(F.e sc st it g).bind fun x=>(itemsOf x.1).bind fun ds=>(iterLoop (PX F sc st t it2 t2 elt Qm) ds [] x.2).bind fun y=>(EX y.1).bind fun d=>some (d,y.2.1))
 (fun k v t it ifs Qm _=>(re (yE sc Qm&&tM Qm t)).bind fun _=>(F.e sc st it g).bind fun x=>(itemsOf x.1).bind fun ds=>(iterLoop (PG F sc st t k v ifs Qm) ds [] x.2).bind fun y=>(re (y.1.length<=lim)).bind fun _=>some (.QH y.1,y.2.1))
 (fun x xp a _=>(F.e sc st (.Name x xp) g).bind fun d=>(xD d.1).bind fun l=>d.2[l]?.bind fun o=>(yg a o).bind fun r=>some (r,d.2))
 (fun f _ as _=>(re (qb sc f&&mt f)).bind fun _=>(F.es sc st as g).bind fun x=>F.call f x.1 x.2)
 (fun x xp m ap as cp=>match tX st x with
  | some QC=>(re (m==("get" :Str)&&ap.endLine==cp.line&&as.length<30&&mt x)).bind fun _=>(F.es sc st as g).bind fun y=>(Ou QC y.1).bind fun d=>some (d,y.2)
  | aa=>(re (ap.endLine==cp.line&&as.length<30&&decide (J8 m<=n))).bind fun _=>(F.e sc st (.Name x xp) g).bind fun a=>(F.es sc st as a.2).bind fun y=>(re (qo a.2 a.1==qo y.2 a.1)).bind fun _=>methD m a.1 y.1 y.2)
 (fun s _ _ m ap as cp=>(re (ap.endLine==cp.line&&as.length<30&&s.length<=lim)).bind fun _=>(F.es sc st as g).bind fun y=>methD m (.str s.cps.toList) y.1 y.2)
 (fun _=>aa)
noncomputable def Kj (g:G) {e:Expr} (v:TV e):Option (Bool×G):=TV.casesOn (motive:=fun _ _=>Option (Bool×G)) v
 (fun x _=>(F.t sc st x g).bind fun b=>some (!b.1,b.2))
 (fun vs _=>F.UO sc st vs g)
 (fun vs _=>F.Tq sc st vs g)
 (fun l op r _=>(F.e sc st l g).bind fun a=>(F.e sc st r a.2).bind fun b=>(cmp p op a.1 b.1).bind fun c=>some (c,b.2))
 (fun e _=>(F.e sc st e g).bind fun d=>(sX d.1).bind fun b=>some (b,d.2))
 (fun _=>aa)
noncomputable def Lk (es:List Expr) (g:G):Option (Bool×G):=match es with
| []=>some (false,g)
| e::r=>(F.t sc st e g).bind fun b=>if b.1 then some (true,b.2) else F.UO sc st r b.2
noncomputable def FX (es:List Expr) (g:G):Option (Bool×G):=match es with
| []=>some (true,g)
| e::r=>(F.t sc st e g).bind fun b=>if b.1 then F.Tq sc st r b.2 else some (false,b.2)
noncomputable def IR (es:List Expr) (g:G):Option (D×G):=match es with
| []=>aa
| e::r=>match r with
  | []=>F.e sc st e g
  | _::_=>(F.e sc st e g).bind fun d=>(sX d.1).bind fun b=>if b then F.RV sc st r d.2 else some (.bool false,d.2)
noncomputable def LV (es:List Expr) (g:G):Option (List D×G):=match es with
| []=>some ([],g)
| e::r=>(F.e sc st e g).bind fun d=>(F.es sc st r d.2).bind fun ds=>some (d.1::ds.1,ds.2)
noncomputable def H6 (es:List Expr) (g:G):Option (Bool×G):=match es with
| []=>some (true,g)
| e::r=>(sy r).bind fun _=>F.t sc st e g
noncomputable def JB (e:Option Expr) (g:G):Option (Option Int×G):=match e with
| aa=>some (aa,g)
| some e=>(F.e sc st e g).bind fun d=>(oN d.1).bind fun i=>some (some i,d.2)
noncomputable def rF (n:Nat) (f:Str) (ds:List D) (g:G):Option (D×G):=match special f with
| some h=>(re (decide (30<=n))).bind fun _=>h ds g
| aa=>(pd p f).bind fun fn=>(re (fn.params.length==ds.length&&!fn.scope.isGenerator)).bind fun _=>(F.ss fn.scope ⟨fn.params.zip ds,[],aa⟩ fn.body g).bind fun x=>(N4 x.1).bind fun d=>some (d,x.2.2)
noncomputable def Me (ss:List Stmt) (g:G):Option (Fl×St×G):=match ss with
| []=>some (.next,st,g)
| s::r=>(F.s sc st s g).bind fun x=>match x.1 with
  | .next=>F.ss sc x.2.1 r x.2.2
  | .ret d=>some (.ret d,x.2.1,x.2.2)
noncomputable def Jm (t:Expr) (ds:List D) (body:List Stmt) (g:G):Option (Fl×St×G):=(iterLoop (ME F sc t body) ds st g).bind fun x=>some (E6 x.2.2,x.1,x.2.1)
noncomputable def sQ (x:Str) (e:Expr) (g:G):Option (Fl×St×G):=match tK e with
| some es=>if Kg es&&x==("table" :Str) then (re (oS st x&&pP sc x)).bind fun _=>some (.next,st.withRho ((x,.loc g.length)::st.ρ),g++[.Qz []])
   else (re (pP sc x)).bind fun _=>(F.es sc st.freeze es g).bind fun y=>(re (y.1.length<=lim)).bind fun _=>(Rw st x (.lst y.1)).bind fun st=>some (.next,st,y.2)
| aa=>if xA e then (re (pP sc x)).bind fun _=>(Rw st x (.QH [])).bind fun st=>some (.next,st,g)
   else match (re (oS st x&&pP sc x)).bind fun _=>F.e sc st e g with
    | some y=>some (.next,st.withRho ((x,y.1)::st.ρ),y.2)
    | aa=>(re (pP sc x)).bind fun _=>(F.e sc st.freeze e g).bind fun y=>some (.next,st.freeze.withRho ((x,y.1)::st.freeze.ρ),y.2)
noncomputable def qj (n:Nat) (x:Str) (xp:Pos) (m:Str) (ap:Pos) (as:List Expr) (cp:Pos) (g:G):Option (Fl×St×G):=match tQ st x with
| some xs=>(re (ap.endLine==cp.line&&as.length<30&&mt x)).bind fun _=>(F.es sc st as g).bind fun y=>(ownMeth m xs y.1).bind fun ys=>some (.next,qt st x (.lst ys),y.2)
| aa=>(re (ap.endLine==cp.line&&as.length<30&&decide (J8 m<=n))).bind fun _=>(F.e sc st (.Name x xp) g).bind fun d=>(xD d.1).bind fun l=>
  if m==("append" :Str) then (uA as).bind fun a=>(tK a).bind fun es=>(sy es).bind fun _=>d.2[l]?.bind fun o=>(sN o).bind fun rows=>(re (rows.length<lim)).bind fun _=>some (.next,st,d.2.set l (.Qz (rows++[[]])))
  else (re (m==("push_token" :Str))).bind fun _=>(F.es sc st as d.2).bind fun y=>(re (qo d.2 (.loc l)==qo y.2 (.loc l))).bind fun _=>(methD m (.loc l) y.1 y.2).bind fun z=>some (.next,st,z.2)
noncomputable def KK (n:Nat) (g:G) {s:Stmt} (v:SV s):Option (Fl×St×G):=SV.casesOn (motive:=fun _ _=>Option (Fl×St×G)) v
 (fun e _=>(F.e sc st.freeze e g).bind fun d=>some (.ret d.1,st.freeze,d.2))
 (fun t b o _=>(F.t sc st t g).bind fun c=>if c.1 then F.ss sc st b c.2 else F.ss sc st o c.2)
 (fun t b _=>F.Rl sc st t b g)
 (fun t it b _=>match qW sc "_iter_escaped_chars" it with
  | some a=>(F.e sc st a g).bind fun d=>(sI d.1).bind fun s=>F.Sl sc st t (units s) b d.2
  | aa=>match qW sc "reversed" it with
   | some a=>(F.e sc st a g).bind fun d=>(tw d.1).bind fun xs=>F.Sl sc st t xs.reverse b d.2
   | aa=>(F.e sc st it g).bind fun d=>(itemsOf d.1).bind fun ds=>F.Sl sc st t ds b d.2)
 (fun x _ e _=>sQ F sc st x e g)
 (fun ts k tp e _=>match qk p sc st e with
  | some q=>(re (p9 sc st (.Tuple ts k tp))).bind fun _=>(F.e sc st q.2 g).bind fun d=>(qx d.1).bind fun k=>d.2[q.1]?.bind fun o=>(sN o).bind fun rows=>rows[k]?.bind fun ds=>(yP ts ds st.ρ).bind fun ρ=>some (.next,st.withRho ρ,d.2)
  | aa=>(re (p9 sc st (.Tuple ts k tp)&&uT e)).bind fun _=>(F.e sc st e g).bind fun d=>(bn (.Tuple ts k tp) d.1 st.ρ).bind fun ρ=>some (.next,st.withRho ρ,d.2))
 (fun x _ i _ e _=>(tX st x).bind fun QC=>(re (mt x&&zp e)).bind fun _=>(F.e sc st e g).bind fun d=>(F.e sc st i d.2).bind fun k=>(oN d.1).bind fun v=>(oN k.1).bind fun j=>(re (QC.length<lim)).bind fun _=>some (.next,qt st x (.QH (put j v QC)),k.2))
 (fun x xp op e _=>(re (oS st x&&pP sc x)).bind fun _=>(F.e sc st (.Name x xp) g).bind fun a=>(F.e sc st e a.2).bind fun b=>(inop op a.1 b.1).bind fun d=>some (.next,st.withRho ((x,d)::st.ρ),b.2))
 (fun x _ i _ op e _=>(tQ st x).bind fun xs=>(re (mt x)).bind fun _=>(F.e sc st i g).bind fun k=>(qx k.1).bind fun j=>xs[j]?.bind fun a=>(F.e sc st e k.2).bind fun b=>(inop op a b.1).bind fun d=>some (.next,qt st x (.lst (xs.set j d)),b.2))
 (fun x xp m ap as cp _=>qj F sc st n x xp m ap as cp g)
 (fun t tp i _ m ap es _ cp _=>(re (m==("extend" :Str)&&ap.endLine==cp.line)).bind fun _=>(F.e sc st (.Name t tp) g).bind fun d=>(xD d.1).bind fun l=>(F.e sc st i d.2).bind fun k=>(qx k.1).bind fun j=>(wc p sc st es).bind fun ys=>k.2[l]?.bind fun o=>(sN o).bind fun rows=>rows[j]?.bind fun xs=>(re ((xs++ys).length<=lim)).bind fun _=>some (.next,st,k.2.set l (.Qz (rows.set j (xs++ys)))))
 (fun _=>aa)
end
noncomputable def Qa:Fs:=⟨fun _ _ _ _=> .none,fun _ _ _ _=> .none,fun _ _ _ _=> .none,fun _ _ _ _=> .none,fun _ _ _ _=> .none,fun _ _ _ _=> .none,fun _ _ _ _=> .none,fun _ _ _ _=> .none,fun _ _ _=> .none,fun _ _ _ _=> .none,fun _ _ _ _ _ _=> .none,fun _ _ _ _ _=> .none,fun _ _ _ _=> .none⟩
noncomputable def up (n:Nat) (F:Fs):Fs where
 e:=fun sc st e g=>AA p F sc st n g (ev e)
 t:=fun sc st e g=>Kj p F sc st g (tv e)
 UO:=Lk F
 Tq:=FX F
 RV:=IR F
 es:=LV F
 ifs:=H6 F
 opt:=JB F
 call:=rF p F n
 ss:=Me F
 Sl:=Jm F
 Rl:=fun sc st t body g=>vV (fun st g=>F.t sc st t g) (fun st g=>F.ss sc st body g) 200 st g
 s:=fun sc st s g=>KK p F sc st n g (sv s)
noncomputable def fs (n:Nat):Fs:=jM (motive:=fun _=>Fs) Qa (fun n F=>up p n F) n
noncomputable def ceE (n:Nat) (sc:aX) (st:St) (e:Expr) (g:G):Option (D×G):=(fs p n).e sc st e g
noncomputable def ceT (n:Nat) (sc:aX) (st:St) (e:Expr) (g:G):Option (Bool×G):=(fs p n).t sc st e g
noncomputable def ceOr (n:Nat) (sc:aX) (st:St) (es:List Expr) (g:G):Option (Bool×G):=(fs p n).UO sc st es g
noncomputable def ceAndT (n:Nat) (sc:aX) (st:St) (es:List Expr) (g:G):Option (Bool×G):=(fs p n).Tq sc st es g
noncomputable def ceAnd (n:Nat) (sc:aX) (st:St) (es:List Expr) (g:G):Option (D×G):=(fs p n).RV sc st es g
noncomputable def ceEs (n:Nat) (sc:aX) (st:St) (es:List Expr) (g:G):Option (List D×G):=(fs p n).es sc st es g
noncomputable def ceIfs (n:Nat) (sc:aX) (st:St) (es:List Expr) (g:G):Option (Bool×G):=(fs p n).ifs sc st es g
noncomputable def ceOpt (n:Nat) (sc:aX) (st:St) (e:Option Expr) (g:G):Option (Option Int×G):=(fs p n).opt sc st e g
noncomputable def ceCall (n:Nat) (f:Str) (ds:List D) (g:G):Option (D×G):=(fs p n).call f ds g
noncomputable def ceSs (n:Nat) (sc:aX) (st:St) (ss:List Stmt) (g:G):Option (Fl×St×G):=(fs p n).ss sc st ss g
noncomputable def wH (n:Nat) (sc:aX) (st:St) (t:Expr) (ds:List D) (body:List Stmt) (g:G):Option (Fl×St×G):=(fs p n).Sl sc st t ds body g
noncomputable def Dc (n:Nat) (sc:aX) (st:St) (t:Expr) (body:List Stmt) (g:G):Option (Fl×St×G):=(fs p n).Rl sc st t body g
noncomputable def ceS (n:Nat) (sc:aX) (st:St) (s:Stmt) (g:G):Option (Fl×St×G):=(fs p n).s sc st s g
end
section
variable {α β H δ ε ζ:Type}
theorem bi:∀ {o:Option α} {f:α->Option β} {r:β} (h:o.bind f=some r),∃ a,o=some a/\f a=some r:=by iterate 4 cases o with | none=>cases h | some a=>exact ⟨a,rfl,h⟩
theorem qO:∀ {o:Option α} {p:α->Option β} {f:α->β->Option H} {r:H} (h:(o.bind fun a=>(p a).bind (f a))=some r),∃ a,o=some a/\∃ b,p a=some b/\f a b=some r:=by iterate 5 exact ((bi h).elim fun a h=>⟨a,h.1,bi h.2⟩)
theorem vK:∀ {o:Option α} {p:α->Option β} {q:α->β->Option H} {f:α->β->H->Option δ} {r:δ} (h:(o.bind fun a=>(p a).bind fun b=>(q a b).bind (f a b))=some r),∃ a,o=some a/\∃ b,p a=some b/\∃ c,q a b=some c/\f a b c=some r:=by iterate 6 exact ((bi h).elim fun a h=>⟨a,h.1,qO h.2⟩)
theorem Aa:∀ {o:Option α} {p:α->Option β} {q:α->β->Option H} {t:α->β->H->Option δ} {f:α->β->H->δ->Option ε} {r:ε} (h:(o.bind fun a=>(p a).bind fun b=>(q a b).bind fun c=>(t a b c).bind (f a b c))=some r),∃ a,o=some a/\∃ b,p a=some b/\∃ c,q a b=some c/\∃ d,t a b c=some d/\f a b c d=some r:=by iterate 7 exact ((bi h).elim fun a h=>⟨a,h.1,vK h.2⟩)
theorem Ph:∀ {o:Option α} {p:α->Option β} {q:α->β->Option H} {t:α->β->H->Option δ} {u:α->β->H->δ->Option ε} {f:α->β->H->δ->ε->Option ζ} {r:ζ} (h:(o.bind fun a=>(p a).bind fun b=>(q a b).bind fun c=>(t a b c).bind fun d=>(u a b c d).bind (f a b c d))=some r),∃ a,o=some a/\∃ b,p a=some b/\∃ c,q a b=some c/\∃ d,t a b c=some d/\∃ e,u a b c d=some e/\f a b c d e=some r:=by iterate 8 exact ((bi h).elim fun a h=>⟨a,h.1,Aa h.2⟩)
end
theorem be:∀ {d:D} {i:Int} (h:oN d=some i),d= .int i:=by iterate 3 exact ((show d=match oN d with | some i=>D.int i | none=>d by cases d<;>rfl).trans (by rw [h]))
theorem qC:∀ {d:D} {k:Nat} (h:qx d=some k),d= .int (k:Int):=by iterate 3
 obtain ⟨i,h1,h2⟩:=bi h;split at h2
 ·rename_i hi;cases h2;rw [Int.toNat_of_nonneg hi];exact be h1
 ·cases h2
theorem pU:∀ {d:D} {b:Bool} (h:sX d=some b),d= .bool b:=by iterate 3 exact ((show d=match sX d with | some b=>D.bool b | none=>d by cases d<;>rfl).trans (by rw [h]))
theorem sZ:∀ {d:D} {l:Nat} (h:xD d=some l),d= .loc l:=by iterate 3 exact ((show d=match xD d with | some l=>D.loc l | none=>d by cases d<;>rfl).trans (by rw [h]))
theorem oO:∀ {d:D} {l:List Nat} (h:sI d=some l),d= .str l:=by iterate 3 exact ((show d=match sI d with | some l=>D.str l | none=>d by cases d<;>rfl).trans (by rw [h]))
theorem pu:∀ {d:D} {l:List D} (h:tw d=some l),d= .lst l:=by iterate 3 exact ((show d=match tw d with | some l=>D.lst l | none=>d by cases d<;>rfl).trans (by rw [h]))
theorem xG:∀ {d:D} {l:List D} (h:CZ d=some l),d= .tup l:=by iterate 3 exact ((show d=match CZ d with | some l=>D.tup l | none=>d by cases d<;>rfl).trans (by rw [h]))
theorem Bw:∀ {d:D} {l:List (Int×Int)} (h:FA d=some l),d= .QH l:=by iterate 3 exact ((show d=match FA d with | some l=>D.QH l | none=>d by cases d<;>rfl).trans (by rw [h]))
theorem Co:∀ {d:D} {l:Int×Int} (h:FN d=some l),d= .rng l.1 l.2:=by iterate 3 exact ((show d=match FN d with | some l=>D.rng l.1 l.2 | none=>d by cases d<;>rfl).trans (by rw [h]))
theorem sf:∀ {d:D} {u:Unit} (h:isNone d=some u),d= .none:=by iterate 3 exact ((show d=match isNone d with | some _=>D.none | none=>d by cases d<;>rfl).trans (by rw [h]))
theorem Ad:∀ {d:D} {u:Unit} (h:Ac d=some u),d= .Sq:=by iterate 3 exact ((show d=match Ac d with | some _=>D.Sq | none=>d by cases d<;>rfl).trans (by rw [h]))
theorem sS:∀ {o:MO} {q:Int×Option Nat×List D} (h:zb o=some q),o= .lex q.1 q.2.1 q.2.2:=by iterate 3 cases o<;>cases h;rfl
theorem sJ:∀ {o:MO} {q:List Nat} (h:AO o=some q),o= .sg q:=by iterate 3 cases o<;>cases h;rfl
theorem rX:∀ {o:MO} {rows:List (List D)} (h:sN o=some rows),o= .Qz rows:=by iterate 3 cases o<;>cases h;rfl
theorem Ew:∀ {o:OW} {QC:List (Int×Int)} (h:Ow o=some QC),o= .QH QC:=by iterate 3 cases o<;>cases h;rfl
theorem EU:∀ {o:OW} {xs:List D} (h:Oo o=some xs),o= .lst xs:=by iterate 3 cases o<;>cases h;rfl
theorem oY:∀ {α:Type} {l:List α} {u:Unit} (h:sy l=some u),l=[]:=by iterate 4 cases l<;>cases h;rfl
theorem qL:∀ {α:Type} {l:List α} {q:α×List α} (h:vO l=some q),l=q.1::q.2:=by iterate 4 cases l<;>cases h;rfl
theorem oX:∀ {α:Type} {l:List α} {a:α} (h:uA l=some a),l=[a]:=by iterate 4 obtain ⟨q,h1,u,h2,h3⟩:=qO h;cases h3;rw [qL h1,oY h2]
theorem rB:∀ {α:Type} {l:List α} {a:α×α} (h:BB l=some a),l=[a.1,a.2]:=by iterate 4 obtain ⟨q,h1,b,h2,h3⟩:=qO h;cases h3;rw [qL h1,oX h2]
theorem pY:∀ {f:Int->Int->Option D} {a b d:D} (h:zO f a b=some d),∃ i j,a= .int i/\b= .int j/\f i j=some d:=by iterate 5 obtain ⟨i,h1,j,h2,h3⟩:=qO h;exact ⟨i,j,be h1,be h2,h3⟩
theorem sj:∀ {e:Expr} {x:Str} (h:qI e=some x),∃ p,e= .Name x p:=by iterate 3 exact (⟨e.pos,(show e=match qI e with | some x=> .Name x e.pos | none=>e by cases e<;>rfl).trans (by rw [h])⟩)
theorem wx:∀ {e:Expr} {es:List Expr} (h:tK e=some es),∃ p,e= .List es p:=by iterate 3 exact (⟨e.pos,(show e=match tK e with | some x=> .List x e.pos | none=>e by cases e<;>rfl).trans (by rw [h])⟩)
theorem An:∀ {e:Expr} {q:Expr×List Expr×List Keyword} (h:BC e=some q),∃ p,e= .Call q.1 q.2.1 q.2.2 p:=by iterate 3 exact (⟨e.pos,(show e=match BC e with | some q=> .Call q.1 q.2.1 q.2.2 e.pos | none=>e by cases e<;>rfl).trans (by rw [h])⟩)
theorem Cb:∀ {e:Expr} {q:Expr×Expr} (h:yU e=some q),∃ p,e= .Subscript q.1 q.2 p:=by iterate 3 exact (⟨e.pos,(show e=match yU e with | some q=> .Subscript q.1 q.2 e.pos | none=>e by cases e<;>rfl).trans (by rw [h])⟩)
theorem Ap:∀ {e:Expr} {q:List (Option Expr)×List Expr} (h:dictOf e=some q),∃ p,e= .Dict q.1 q.2 p:=by iterate 3 exact (⟨e.pos,(show e=match dictOf e with | some q=> .Dict q.1 q.2 e.pos | none=>e by cases e<;>rfl).trans (by rw [h])⟩)
theorem AK:∀ {e:Expr} (h:xA e=true),∃ p,e= .Dict [] [] p:=by iterate 2 unfold xA at h;cases hq:dictOf e with | none=>rw [hq] at h;cases h | some q=>rw [hq] at h;obtain ⟨p,rfl⟩:=Ap hq;obtain ⟨h1,h2⟩:=bx.mp h;exact ⟨p,by rw [eR.mp h1,eR.mp h2]⟩
theorem BO:∀ {es:List Expr} (h:Kg es=true),es=[]:=by iterate 2
 cases es
 ·rfl
 ·cases h
theorem xc:∀ {sc:aX} {f:Str} {e a:Expr} (h:qW sc f e=some a),∃ fp p,e= .Call (.Name f fp) [a] [] p/\qb sc f=true:=by iterate 5
 obtain ⟨q,h1,x,h2,b,h3,u,h4,h5⟩:=Aa h;obtain ⟨p,rfl⟩:=An h1;obtain ⟨fp,h2⟩:=sj h2;split at h5
 ·rename_i hc;cases h5;rw [ai] at hc;have hf:=eq_of_beq hc.2;subst hf;exact ⟨fp,p,by rw [h2,oX h3,oY h4],hc.1⟩
 ·cases h5
theorem dl:∀ {b:Bool} {u:Unit} (h:re b=some u),b=true:=by iterate 3
 cases b
 ·cases h
 ·rfl
theorem vJ:∀ {x:List Nat} {d:D} (h:E4 x=some d),x.length<=lim/\d= .str x:=by iterate 3 unfold E4 at h;split at h<;>cases h;exact ⟨by assumption,rfl⟩
theorem tG:∀ {x:List D} {d:D} (h:EX x=some d),x.length<=lim/\d= .lst x:=by iterate 3 unfold EX at h;split at h<;>cases h;exact ⟨by assumption,rfl⟩
theorem wz:∀ {st:St} {x:Str} {QC:List (Int×Int)} (h:tX st x=some QC),st.own=some (x,.QH QC):=by iterate 4
 obtain ⟨⟨y,o⟩,h1,h2⟩:=bi h;split at h2
 ·rename_i hxy;rw [h1,eq_of_beq hxy,show o=_ from Ew h2]
 ·cases h2
theorem wP:∀ {st:St} {x:Str} {xs:List D} (h:tQ st x=some xs),st.own=some (x,.lst xs):=by iterate 4
 obtain ⟨⟨y,o⟩,h1,h2⟩:=bi h;split at h2
 ·rename_i hxy;rw [h1,eq_of_beq hxy,show o=_ from EU h2]
 ·cases h2
noncomputable def o8 (ln:Int) (c:Nat):Int:=if c=10 then ln+1 else ln
theorem vF:∀ {c:Nat} {r acc:List Nat} {ln:Int},tA (c::r) acc ln=if c=34 then (acc,r,o8 ln c) else if c=92 then kP r (acc,[],o8 ln c) (fun d r'=>tA r' (acc++[d]) (o8 (o8 ln c) d)) else tA r (acc++[c]) (o8 ln c):=by iterate 4 cases r<;>rfl'
theorem vM:∀ {c:Nat} {r acc:List Nat} {ln:Int},sF (c::r) acc ln=if qE c=true then (acc,r,o8 ln c) else if c=92 then kP r (acc,[],o8 ln c) (fun d r'=>sF r' (acc++[d]) (o8 (o8 ln c) d)) else sF r (acc++[c]) (o8 ln c):=by iterate 4 cases r<;>rfl'
end MP.Lake
namespace Cz
theorem n3:Nonempty MP.Lake.St:=⟨⟨[],[],none⟩⟩
theorem n4:Nonempty MP.Lake.Fn:=⟨⟨default,default,default⟩⟩
end Cz
set_option backward.match.sparseCases true
namespace MP.Lake
open PySem PyProof.Rows
noncomputable abbrev PM:=Addr->Option Obj
structure Tr where
 a:Addr
 c:Addr
 pos:Pos
 q:Str
theorem _root_.Cz.m5:Nonempty Tr:=by iterate 0 exact (⟨⟨default,default,default,default⟩⟩)
structure Cx where
 w:jl
 Q5:Heap
 tabs:List Tr
 UX:Addr
 cls:Addr
 os:kD
theorem _root_.Cz.m2:Nonempty Cx:=by iterate 0 exact (Cz.n5.elim fun w=>⟨⟨w,default,[],default,default,default⟩⟩)
noncomputable def Cx.T (J:Cx):List Addr:=J.tabs.map (·.a)
noncomputable def Rf (F:PM) (a:Addr) (vs:List ag):Prop:=∃ o n,F a=some o/\o.cls= .type "list" /\o.dict=none/\o.data= .seq vs.toArray n
noncomputable def Sn (F:PM) (a:Addr) (vs:List ag):Prop:=∃ o n,F a=some o/\o.cls= .type "tuple" /\o.dict=none/\o.data= .seq vs.toArray n
noncomputable def Sb:List (Int×ag)->List (Int×Int)->Prop
| [],QC=>QC=[]
| (k,v)::r,QC=>∃ i t r',QC=(k,i)::r'/\v= .int i t/\Sb r r'
noncomputable abbrev IK (J:Cx):PySem.KeyKind ee J.w Int:=intKind ee J.w
noncomputable def TP (J:Cx) (F:PM) (a:Addr) (QC:List (Int×Int)):Prop:=
 ∃ o ws ep,F a=some o/\(∀ h:Heap,h.get? a=some o->h.DictAt (IK J) a ws ep)/\Sb ws QC
mutual
noncomputable def Rd (J:Cx) (F:PM) (as:List Addr):D->ag->Prop
| .none,v=>v= .none
| .bool b,v=>v= .bool b
| .int i,v=>∃ t,v= .int i t
| .str s,v=>s.length<=lim/\∃ t,v= .str ⟨s.toArray⟩ t
| .tup xs,v=>xs.length<=lim/\∃ a vs,v= .ref a/\Sn F a vs/\Qt J F as xs vs
| .lst xs,v=>xs.length<=lim/\∃ a vs,v= .ref a/\Rf F a vs/\Qt J F as xs vs
| .QH QC,v=>QC.length<=lim/\∃ a,v= .ref a/\(a==iB)=false/\TP J F a QC
| .rng a b,v=>∃ r t u w,v= .ref r/\F r=some {cls:= .type "range",data:= .fields #[.int a t,.int b u,.int 1 w]}
| .loc i,v=>∃ a,v= .ref a/\as[i]? =some a
| .tab,v=>v= .ref J.UX
| .Sq,v=>v= .type "int"
| .raw a,v=>v= .ref a
noncomputable def Qt (J:Cx) (F:PM) (as:List Addr):List D->List ag->Prop
| [],vs=>vs=[]
| d::ds,vs=>∃ v r,vs=v::r/\Rd J F as d v/\Qt J F as ds r
end
noncomputable def PM.le (F F':PM):Prop:=∀ a o,F a=some o->F' a=some o
theorem PM.le.refl:∀ (F:PM),PM.le F F:=by iterate 1 exact (fun _ _ h=>h)
theorem PM.le.trans:∀ {F G ahg:PM} (h:PM.le F G) (k:PM.le G ahg),PM.le F ahg:=by iterate 5 exact (fun a o e=>k a o (h a o e))
noncomputable def Pre (as UK:List Addr):Prop:=∀ (i:Nat) (a:Addr),as[i]? =some a->UK[i]? =some a
theorem Pre.refl:∀ (as:List Addr),Pre as as:=by iterate 1 exact (fun _ _ h=>h)
theorem Pre.trans:∀ {a b c:List Addr} (h:Pre a b) (k:Pre b c),Pre a c:=by iterate 5 exact (fun i x e=>k i x (h i x e))
theorem Rf.mono {F F':PM} (h:PM.le F F') {a vs} (x:Rf F a vs):Rf F' a vs:=by obtain ⟨o,n,e,r⟩:=x;exact ⟨o,n,h _ _ e,r⟩
theorem Sn.mono {F F':PM} (h:PM.le F F') {a vs} (x:Sn F a vs):Sn F' a vs:=by obtain ⟨o,n,e,r⟩:=x;exact ⟨o,n,h _ _ e,r⟩
theorem TP.mono {J:Cx} {F F':PM} (h:PM.le F F') {a QC} (x:TP J F a QC):TP J F' a QC:=by obtain ⟨o,ws,ep,e,r⟩:=x;exact ⟨o,ws,ep,h _ _ e,r⟩
mutual
theorem Rd.mono {J:Cx} {F F':PM} {as UK:List Addr} (h:PM.le F F') (k:Pre as UK):∀ {d:D} {v:ag},Rd J F as d v->Rd J F' UK d v
 | .none,_,x=>by exact x
 | .bool _,_,x=>by exact x
 | .int _,_,x=>by exact x
 | .str _,_,x=>by exact x
 | .tup xs,v,x=>by dsimp only [Rd] at x ⊢;obtain ⟨hl,a,vs,e,p,r⟩:=x;exact ⟨hl,a,vs,e,p.mono h,Qt.mono h k r⟩
 | .lst xs,v,x=>by dsimp only [Rd] at x ⊢;obtain ⟨hl,a,vs,e,p,r⟩:=x;exact ⟨hl,a,vs,e,p.mono h,Qt.mono h k r⟩
 | .QH QC,v,x=>by dsimp only [Rd] at x ⊢;obtain ⟨hl,a,e,n,p⟩:=x;exact ⟨hl,a,e,n,p.mono h⟩
 | .rng a b,v,x=>by dsimp only [Rd] at x ⊢;obtain ⟨r,t,u,w,e,p⟩:=x;exact ⟨r,t,u,w,e,h _ _ p⟩
 | .loc i,v,x=>by dsimp only [Rd] at x ⊢;obtain ⟨a,e,p⟩:=x;exact ⟨a,e,k _ _ p⟩
 | .tab,_,x=>by exact x
 | .Sq,_,x=>by exact x
 | .raw _,_,x=>by exact x
theorem Qt.mono {J:Cx} {F F':PM} {as UK:List Addr} (h:PM.le F F') (k:Pre as UK):∀ {ds:List D} {vs:List ag},Qt J F as ds vs->Qt J F' UK ds vs
 | [],_,x=>by exact x
 | d::ds,vs,x=>by dsimp only [Qt] at x ⊢;obtain ⟨v,r,e,p,q⟩:=x;exact ⟨v,r,e,Rd.mono h k p,Qt.mono h k q⟩
end
theorem Qt.length {J:Cx} {F:PM} {as:List Addr}:∀ {ds:List D} {vs:List ag},Qt J F as ds vs->vs.length=ds.length
 | [],_,x=>by dsimp only [Qt] at x;simp [x]
 | d::ds,vs,x=>by dsimp only [Qt] at x;obtain ⟨v,r,rfl,_,q⟩:=x;simp [Qt.length q]
theorem Qt.get:∀ {J:Cx} {F:PM} {as:List Addr},∀ {ds:List D} {vs:List ag},Qt J F as ds vs->∀ {i:Nat} {d:D},ds[i]? =some d->∃ v,vs[i]? =some v/\Rd J F as d v:=by iterate 3
 intro ds;induction ds with
 | nil=>intro _ _ i d e;simp at e
 | cons d ds Qo=>intro vs x i d' e;dsimp only [Qt] at x;obtain ⟨v,r,rfl,p,q⟩:=x;cases i with | zero=>simp at e;subst e;exact ⟨v,by simp,p⟩ | succ i=>simp at e;obtain ⟨v',h1,h2⟩:=Qo q e;exact ⟨v',by simpa using h1,h2⟩
theorem Qt.append:∀ {J:Cx} {F:PM} {as:List Addr},∀ {ds Rh:List D} {vs SX:List ag},Qt J F as ds vs->Qt J F as Rh SX->Qt J F as (ds++Rh) (vs++SX):=by iterate 3 intro ds;induction ds with | nil=>intro _ _ _ x y;dsimp only [Qt] at x;subst x;simpa using y | cons d ds Qo=>intro _ _ _ x y;dsimp only [Qt] at x;obtain ⟨v,r,rfl,p,q⟩:=x;dsimp only [bc,Qt];exact ⟨v,_,rfl,p,Qo q y⟩
theorem Qt.one:∀ {J:Cx} {F:PM} {as:List Addr} {d:D} {v:ag} (h:Rd J F as d v),Qt J F as [d] [v]:=by iterate 6 dsimp only [Qt];exact ⟨v,[],rfl,h,rfl⟩
theorem Qt.of_get:∀ {J:Cx} {F:PM} {as:List Addr},∀ {ds:List D} {vs:List ag},vs.length=ds.length->(∀ (i:Nat) (d:D) (v:ag),ds[i]? =some d->vs[i]? =some v->Rd J F as d v)->Qt J F as ds vs:=by iterate 3
 intro ds;induction ds with
 | nil=>intro vs h _;dsimp only [Qt];exact eS h
 | cons d ds Qo=>intro vs h k;cases vs with | nil=>simp at h | cons v vs=>dsimp only [Qt];exact ⟨v,vs,rfl,k 0 d v rfl rfl,Qo (by simpa using h) fun i d v a b=>k (i+1) d v (by simpa using a) (by simpa using b)⟩
noncomputable def Uj (F:PM) (a:Addr) (m:Str->Option ag):Prop:=∃ o es ep,F a=some o/\o.data= .dict es ep/\StrKeys es/\∀ name,nsFind es name=m name
noncomputable def Wc (F:PM) (a:Addr) (m:Str->Option ag):Prop:=∃ o es ep,F a=some o/\o.data= .dict es ep/\StrKeys es/\UniqKeys es/\∀ name,nsFind es name=m name
theorem Wc.mono {F F':PM} (h:PM.le F F') {a m} (x:Wc F a m):Wc F' a m:=by obtain ⟨o,es,ep,e,r⟩:=x;exact ⟨o,es,ep,h _ _ e,r⟩
noncomputable def KJ (a:dD) (b:Expr) (sc:aX) (c:Addr) (pm cd ct:ag):eO:=
 {name:="<lambda>",qualname:="_law_lexer.<locals>.<lambda>",params:=a,body:= .expr b,scope:=sc,globals:=bC,closure:=[("signs",c)],defaults:= .none,kwdefaults:= .none,
  pyModule:=pm,code:=cd,closureTuple:=ct,builtins:=bU}
noncomputable def TQ (F:PM) (fn c:Addr):Prop:=∃ X3 a b sc pos o pm cd ct c' oc vs t,pd ee "_law_lexer" =some X3/\Kh X3.body=some (a,b,sc,pos)/\
 F fn=some o/\o.data= .func (KJ a b sc c pm cd ct)/\cd= .ref c'/\F c'=some oc/\oc.data= .fields vs/\vs[1]? =some (.str "_law_lexer.<locals>.<lambda>" t)
noncomputable def Ol (c:Nat) (v:ag):Prop:=∃ t,v= .str ⟨#[c]⟩ t
noncomputable def yk:List Nat->List ag->Prop
| [],vs=>vs=[]
| c::cs,vs=>∃ v r,vs=v::r/\Ol c v/\yk cs r
noncomputable def tO (ln:ag) (iv ws:ag) (pA:Addr):Str->Option ag:=fun x=>
 if x="lineno" then some ln else if x="instream" then some iv else if x="whitespace" then some ws else if x="pushback" then some (.ref pA) else none
noncomputable def J9 (fn:Addr) (r:Str->Option ag):Str->Option ag:=fun x=>if x="read" then some (.ref fn) else r x
noncomputable def So (J:Cx) (F:PM) (a d:Addr):Prop:=∃ ob,F a=some ob/\ob.cls= .ref J.cls/\ob.dict=some d/\∀ c:mv,ob.data≠ .cls c
theorem So.mono {J:Cx} {F F':PM} (h:PM.le F F') {a d} (x:So J F a d):So J F' a d:=by obtain ⟨o,e,r⟩:=x;exact ⟨o,h _ _ e,r⟩
noncomputable def SrcAt (J:Cx) (F:PM) (as:List Addr) (iv:ag):Option Nat->Prop
| none=>iv= .none
| some j=>∃ st dS fn c sA r o,iv= .ref st/\So J F st dS/\dS≠st/\Wc F dS (J9 fn r)/\TQ F fn c/\F c=some o/\o.data= .cell (some (.ref sA))/\as[j]? =some sA
noncomputable def RK (J:Cx) (F:PM) (as:List Addr) (h:Heap):MO->Addr->List Addr->Prop
| .lex ln src pb,a,fp=>pb.length<=lim/\∃ dA pA iv t u vs,So J F a dA/\
   h.Ns1 dA (tO (.int ln t) iv (.str "\n\t\r " u) pA)/\bS h pA vs/\Qt J F as pb vs.toList/\fp=[dA,pA]/\SrcAt J F as iv src
| .sg cs,a,fp=>cs.length<=lim/\fp=[a]/\∃ ss,bS h a ss/\yk cs ss.toList
| .Qz rows,a,fp=>rows.length<=lim/\∃ vs rs,bS h a vs/\vs.toList=rs.map ef/\fp=a::rs/\rs.length=rows.length/\
   ∀ (i:Nat) ds r,rows[i]? =some ds->rs[i]? =some r->ds.length<=lim/\∃ ws,bS h r ws/\Qt J F as ds ws.toList
structure Wd where
 F:PM
 H:List MO
 as:List Addr
 QK:List (List Addr)
theorem _root_.Cz.m1:Nonempty Wd:=by iterate 0 exact (⟨⟨fun _=>none,[],[],[]⟩⟩)
noncomputable def ud (vs:Array ag):Obj:={cls:= .none,data:= .fields vs}
noncomputable def Uw (F:PM) (h:Heap) (T:Tr):Prop:=
 h.get? T.a=some (ud #[])\/∃ c' oc vs t,h.get? T.a=some (ud (#[]++#[m9 T.pos.line,m9 T.pos.col,.ref c']))/\F c'=some oc/\oc.data= .fields vs/\vs[1]? =some (.str T.q t)
structure Qs (J:Cx) (W:Wd) (s:ah):Prop where
 sub:∀ a o,W.F a=some o->s.heap.get? a=some o
 base:∀ a o,a∉J.T->J.Q5.get? a=some o->W.F a=some o
 RD:∀ a∈J.T,W.F a=none
 low:∀ a o,J.Q5.get? a=some o->∃ o',s.heap.get? a=some o'
 tab:∀ T∈J.tabs,Uw W.F s.heap T
 Rg:W.as.length=W.H.length
 Rm:W.QK.length=W.H.length
 obj:∀ (i:Nat) mo a fp,W.H[i]? =some mo->W.as[i]? =some a->W.QK[i]? =some fp->RK J W.F W.as s.heap mo a fp
 nodup:W.QK.flatten.Nodup
 RI:∀ a∈W.QK.flatten,W.F a=none/\a∉J.T/\∃ o,s.heap.get? a=some o
 bare:ij s.gens
 os:s.os=J.os
structure Qp (J:Cx) (X:List Addr) (W:Wd) (s:ah) (W':Wd) (s':ah):Prop where
 ok:Qs J W' s'
 le:PM.le W.F W'.F
 fresh:∀ a o,W'.F a=some o->W.F a=some o\/s.heap.get? a=none
 keep:∀ a o,a∉J.T->a∉W.QK.flatten->a∉X->s.heap.get? a=some o->s'.heap.get? a=some o
 there:∀ a o,s.heap.get? a=some o->∃ o',s'.heap.get? a=some o'
 as:Pre W.as W'.as
 QK:∀ a∈W'.QK.flatten,a∈W.QK.flatten\/s.heap.get? a=none
 gens:∀ (i:Nat) (g:di),s.gens[i]? =some g->s'.gens[i]? =some g
theorem Qp.refl:∀ {J:Cx} {X:List Addr} {W:Wd} {s:ah} (h:Qs J W s),Qp J X W s W s:=by iterate 5 exact (⟨h,PM.le.refl _,fun _ _ e=> .inl e,fun _ _ _ _ _ e=>e,fun _ o e=>⟨o,e⟩,Pre.refl _,fun _ e=> .inl e,fun _ _ e=>e⟩)
theorem Qp.Qy:∀ {J:Cx} {X:List Addr} {W W1:Wd} {s s1:ah} {a:Addr} (h:Qp J X W s W1 s1) (e:s1.heap.get? a=none),s.heap.get? a=none:=by iterate 9 cases q:s.heap.get? a with | none=>rfl | some o=>obtain ⟨o',h'⟩:=h.there a o q;rw [e] at h';cases h'
theorem Qp.trans:∀ {J:Cx} {X Y:List Addr} {W W1 W2:Wd} {s s1 s2:ah} (h:Qp J X W s W1 s1) (k:Qp J Y W1 s1 W2 s2) (hY:∀ a∈Y,a∈X\/s.heap.get? a=none),Qp J X W s W2 s2:=by iterate 12
 exact {
  ok:=k.ok
  le:=h.le.trans k.le
  fresh a o e:=by
   rcases k.fresh a o e with e | e
   ·exact h.fresh a o e
   ·exact .inr (h.Qy e)
  keep a o hT hf hX e:=by
   refine k.keep a o hT (fun hm=>?_) (fun hm=>?_) (h.keep a o hT hf hX e)
   ·rcases h.QK a hm with h' | h'
    ·exact hf h'
    ·rw [e] at h';cases h'
   ·rcases hY a hm with h' | h'
    ·exact hX h'
    ·rw [e] at h';cases h'
  there a o e:=by obtain ⟨o',e'⟩:=h.there a o e;exact k.there a o' e'
  as:=h.as.trans k.as
  QK a ha:=by
   rcases k.QK a ha with h' | h'
   ·exact h.QK a h'
   ·exact .inr (h.Qy h')
  gens i g e:=k.gens i g (h.gens i g e)}
theorem Qp.weaken:∀ {J:Cx} {X Y:List Addr} {W W1:Wd} {s s1:ah} (h:Qp J X W s W1 s1) (hY:∀ a∈X,a∈Y\/s.heap.get? a=none),Qp J Y W s W1 s1:=by iterate 9
 exact {
  ok:=h.ok
  le:=h.le
  fresh:=h.fresh
  keep a o hT hf hX e:=h.keep a o hT hf (fun hm=>by
   rcases hY a hm with h' | h'
   ·exact hX h'
   ·rw [e] at h';cases h') e
  there:=h.there
  as:=h.as
  QK:=h.QK
  gens:=h.gens}
theorem bS.keep:∀ {h h':Heap} {a:Addr} {vs:Array ag} (x:bS h a vs) (k:∀ o,h.get? a=some o->h'.get? a=some o),bS h' a vs:=by iterate 6 obtain ⟨o,n,e,r⟩:=x;exact ⟨o,n,k _ e,r⟩
theorem Ns.keep {h h':Heap} {a:Addr} {m} (x:h.Ns a m) (k:∀ o,h.get? a=some o->h'.get? a=some o):h'.Ns a m:=by obtain ⟨o,es,ep,e,r⟩:=x;exact ⟨o,es,ep,k _ e,r⟩
theorem Ns1.keep {h h':Heap} {a:Addr} {m} (x:h.Ns1 a m) (k:∀ o,h.get? a=some o->h'.get? a=some o):h'.Ns1 a m:=by obtain ⟨o,es,ep,e,r⟩:=x;exact ⟨o,es,ep,k _ e,r⟩
theorem TQ.mono:∀ {F F':PM} {fn c:Addr} (h:PM.le F F') (x:TQ F fn c),TQ F' fn c:=by iterate 6 obtain ⟨X3,a,b,sc,pos,o,pm,cd,ct,c',oc,vs,t,h1,h2,h3,h4,h5,h6,h7,h8⟩:=x;exact ⟨X3,a,b,sc,pos,o,pm,cd,ct,c',oc,vs,t,h1,h2,h _ _ h3,h4,h5,h _ _ h6,h7,h8⟩
theorem SrcAt.mono:∀ {J:Cx} {F F':PM} {as UK:List Addr} {iv:ag} {src:Option Nat} (hF:PM.le F F') (hA:Pre as UK) (x:SrcAt J F as iv src),SrcAt J F' UK iv src:=by iterate 10 cases src with | none=>exact x | some j=>obtain ⟨st,dS,fn,c,sA,r,o,f1,f2,f0,f3,f4,f5,f6,f7⟩:=x;exact ⟨st,dS,fn,c,sA,r,o,f1,f2.mono hF,f0,f3.mono hF,f4.mono hF,hF _ _ f5,f6,hA _ _ f7⟩
theorem RK.keep:∀ {J:Cx} {F F':PM} {as UK:List Addr} {h h':Heap} {mo:MO} {a:Addr} {fp:List Addr} (x:RK J F as h mo a fp) (hF:PM.le F F') (hA:Pre as UK) (k:∀ b∈fp,∀ o,h.get? b=some o->h'.get? b=some o),RK J F' UK h' mo a fp:=by iterate 14
 cases mo with
 | lex ln src pb=>
  obtain ⟨hl,dA,pA,iv,t,u,vs,e1,e4,e5,e6,e7,e8⟩:=x;have hd:dA∈fp:=by rw [e7];simp
  have hp:pA∈fp:=by rw [e7];simp
  exact ⟨hl,dA,pA,iv,t,u,vs,e1.mono hF,Ns1.keep e4 (k _ hd),bS.keep e5 (k _ hp),e6.mono hF hA,e7,e8.mono hF hA⟩
 | sg cs=>obtain ⟨hl,e1,ss,e2,e3⟩:=x;exact ⟨hl,e1,ss,bS.keep e2 (k _ (by rw [e1];simp)),e3⟩
 | Qz rows=>dsimp only [RK] at x ⊢;obtain ⟨hl,vs,rs,e1,e2,e3,e4,e5⟩:=x;refine ⟨hl,vs,rs,bS.keep e1 (k _ (by rw [e3];simp)),e2,e3,e4,fun i ds r hi hr=>?_⟩;obtain ⟨h1,ws,h2,h3⟩:=e5 i ds r hi hr;exact ⟨h1,ws,bS.keep h2 (k _ (by rw [e3];exact av _ (bL hr))),h3.mono hF hA⟩
theorem RK.lt:∀ {J:Cx} {F:PM} {as:List Addr} {h:Heap} {mo:MO} {a:Addr} {fp:List Addr} (x:RK J F as h mo a fp),∀ b∈fp,∃ o,h.get? b=some o:=by iterate 8
 cases mo with
 | lex ln src pb=>
  obtain ⟨hl,dA,pA,iv,t,u,vs,e1,⟨o,_,_,e2,_⟩,⟨op,np,e5,_⟩,e6,e7,e8⟩:=x;subst e7;intro b hb;rcases aq.mp hb with rfl | hb
  ·exact ⟨_,e2⟩
  rcases aq.mp hb with rfl | hb
  ·exact ⟨_,e5⟩
  ·simp at hb
 | sg cs=>obtain ⟨hl,rfl,ss,⟨o,n,e2,_⟩,e3⟩:=x;intro b hb;simp at hb;subst hb;exact ⟨_,e2⟩
 | Qz rows=>
  dsimp only [RK] at x;obtain ⟨hl,vs,rs,⟨o,n,e1,_⟩,e2,e3,e4,e5⟩:=x;subst e3;intro b hb;rcases aq.mp hb with rfl | hb
  ·exact ⟨_,e1⟩
  ·obtain ⟨i,hi,rfl⟩:=kX.mp hb;have:i<rows.length:=by omega
   obtain ⟨_,ws,⟨o,n,h2,_⟩,_⟩:=e5 i rows[i] rs[i] (by simp) (by simp);exact ⟨_,h2⟩
theorem Uw.keep:∀ {F F':PM} {h h':Heap} {T:Tr} (x:Uw F h T) (hF:PM.le F F') (k:∀ o,h.get? T.a=some o->h'.get? T.a=some o),Uw F' h' T:=by iterate 8
 rcases x with h3 | ⟨c',oc,vs,t,h3,h4,h5,h6⟩
 ·exact .inl (k _ h3)
 ·exact .inr ⟨c',oc,vs,t,k _ h3,hF _ _ h4,h5,h6⟩
theorem qP:∀ {W:Wd} {i:Nat} {fp:List Addr} {a:Addr} (h:W.QK[i]? =some fp) (ha:a∈fp),a∈W.QK.flatten:=by iterate 6 exact (gJ.mpr ⟨fp,bL h,ha⟩)
theorem Qp.grow:∀ {J:Cx} {X:List Addr} {W:Wd} {s s':ah} (h:Qs J W s) (k:∀ a o,a∉X->s.heap.get? a=some o->s'.heap.get? a=some o) (hs:∀ a o,s.heap.get? a=some o->∃ o',s'.heap.get? a=some o') (hX:∀ a∈X,W.F a=none/\a∉J.T/\a∉W.QK.flatten) (hg:s'.gens=s.gens) (ho:s'.os=s.os),Qp J X W s W s':=by iterate 11
 exact {
  ok:={
   sub:=fun a o e=>k a o (fun hm=>by rw [(hX a hm).1] at e;cases e) (h.sub a o e)
   base:=h.base
   RD:=h.RD
   low:=fun a o e=>(by obtain ⟨o',e'⟩:=h.low a o e;exact hs a o' e')
   tab:=fun T hT=>(h.tab T hT).keep (PM.le.refl _) fun o e=>k _ o (fun hm=>(hX _ hm).2.1 (cM hT)) e
   Rg:=h.Rg
   Rm:=h.Rm
   obj:=fun i mo a fp h1 h2 h3=>(h.obj i mo a fp h1 h2 h3).keep (PM.le.refl _) (Pre.refl _) fun b hb o e=>k b o (fun hm=>(hX _ hm).2.2 (qP h3 hb)) e
   nodup:=h.nodup
   RI:=fun a ha=>⟨(h.RI a ha).1,(h.RI a ha).2.1,(by obtain ⟨o,e⟩:=(h.RI a ha).2.2;exact hs a o e)⟩
   bare:=hg▸h.bare
   os:=ho.trans h.os}
  le:=PM.le.refl _
  fresh:=fun _ _ e=> .inl e
  keep:=fun a o _ _ hx e=>k a o hx e
  there:=hs
  as:=Pre.refl _
  QK:=fun _ e=> .inl e
  gens:=fun i g e=>by rw [hg];exact e}
noncomputable def Wd.Q8 (W:Wd) (a:Addr) (o:Obj):Wd:={W with F:=fun b=>if b=a then some o else W.F b}
theorem Qp.Q8:∀ {J:Cx} {X:List Addr} {W W':Wd} {s s':ah} (h:Qp J X W s W' s') {a:Addr} {o:Obj} (e:s'.heap.get? a=some o) (hn:s.heap.get? a=none) (hT:a∉J.T) (hf:a∉W'.QK.flatten),Qp J X W s (W'.Q8 a o) s':=by iterate 13
 exact {
  ok:=by
   have le:PM.le W'.F (W'.Q8 a o).F:=fun b ob eb=>by
    show (if b=a then some o else W'.F b)=some ob;by_cases hb:b=a
    ·subst hb;rw [if_pos rfl,<-e];exact h.ok.sub _ _ eb
    ·rw [if_neg hb];exact eb
   exact {
    sub:=fun b ob eb=>by
     have TN:(if b=a then some o else W'.F b)=some ob:=eb;by_cases hb:b=a
     ·subst hb;rw [if_pos rfl] at TN;cases TN;exact e
     ·rw [if_neg hb] at TN;exact h.ok.sub _ _ TN
    base:=fun b ob h1 h2=>le _ _ (h.ok.base b ob h1 h2)
    RD:=fun b hb=>by show (if b=a then some o else W'.F b)=none;rw [if_neg (fun (q:b=a)=>hT (by rw [<-q];exact hb))];exact h.ok.RD b hb
    low:=h.ok.low
    tab:=fun T hT=>(h.ok.tab T hT).keep le fun _ e=>e
    Rg:=h.ok.Rg
    Rm:=h.ok.Rm
    obj:=fun i mo a fp h1 h2 h3=>(h.ok.obj i mo a fp h1 h2 h3).keep le (Pre.refl _) fun _ _ _ e=>e
    nodup:=h.ok.nodup
    RI:=fun b hb=>⟨by show (if b=a then some o else W'.F b)=none;rw [if_neg (fun (q:b=a)=>hf (by rw [<-q];exact hb))];exact (h.ok.RI b hb).1,(h.ok.RI b hb).2⟩
    bare:=h.ok.bare
    os:=h.ok.os}
  le:=h.le.trans fun b ob eb=>by
    show (if b=a then some o else W'.F b)=some ob;by_cases hb:b=a
    ·subst hb;rw [if_pos rfl,<-e];exact h.ok.sub _ _ eb
    ·rw [if_neg hb];exact eb
  fresh:=fun b ob eb=>by
   have TN:(if b=a then some o else W'.F b)=some ob:=eb;by_cases hb:b=a
   ·subst hb;exact .inr hn
   ·rw [if_neg hb] at TN;exact h.fresh _ _ TN
  keep:=h.keep
  there:=h.there
  as:=h.as
  QK:=h.QK
  gens:=h.gens}
theorem oT:∀ (W:Wd) (a:Addr) (o:Obj),(W.Q8 a o).F a=some o:=by iterate 3 exact (if_pos rfl)
noncomputable abbrev P0:bY:=ee
noncomputable def Ex {α:Type} (J:Cx) (A:bf) (t:Sem α) (X:List Addr) (W:Wd) (s:ah) (P:α->Wd->ah->Prop):Prop:=
 aD (aC P0 J.w) A t (fun a s'=>∃ W',Qp J X W s W' s'/\P a W' s') (fun _ _=>False) s
noncomputable def Qx (n:Nat) (A:bf):Prop:=A.handled=none/\A.depth+n+60<cw/\A.units+8 * n+400<mj
theorem Qx.le:∀ {n m:Nat} {A:bf} (h:Qx n A) (k:m<=n),Qx m A:=by iterate 5 exact (⟨h.1,by have:=h.2.1;omega,by have:=h.2.2;omega⟩)
section
variable {α β:Type} {J:Cx} {A:bf} {X:List Addr} {W:Wd} {s:ah}
theorem Ex.into:∀ {t:Sem α} {P:α->Wd->ah->Prop} {Q:α->ah->Prop} {E:ag->ah->Prop} (h:Ex J A t X W s P) (k:∀ a W1 s1,Qp J X W s W1 s1->P a W1 s1->Q a s1),aD (aC P0 J.w) A t Q E s:=by iterate 6 exact (af h (fun a s1 z0=>by obtain ⟨W1,k1,p⟩:=z0;exact k a W1 s1 k1 p) fun _ _ f=>f.elim)
theorem Qp.Qn:∀ {W1 W2:Wd} {s1 s2:ah} (h:Qp J X W s W1 s1) (k:Qp J [] W1 s1 W2 s2),Qp J X W s W2 s2:=by iterate 6 exact (h.trans k (by simp))
theorem Qp.RQ:∀ {W1 W2:Wd} {s1 s2:ah} (h:Qp J X W s W1 s1) (k:Qp J X W1 s1 W2 s2),Qp J X W s W2 s2:=by iterate 6 exact (h.trans k (fun _ h=> .inl h))
theorem Qp.Sy:∀ {W1 W2:Wd} {s1 s2:ah} (h:Qp J [] W s W1 s1) (k:Qp J X W1 s1 W2 s2),Qp J X W s W2 s2:=by iterate 6 exact ((h.weaken (by simp)).RQ k)
theorem Qp.toks:∀ {tk:Nat} (h:Qs J W s),Qp J X W s W {s with toks:=tk}:=by iterate 2 exact ((Qp.grow (X:=[]) (s':={s with toks:=tk}) h (fun _ _ _ e=>e) (fun _ o e=>⟨o,e⟩) (by simp) rfl rfl).weaken (by simp))
theorem Qp.push:∀ {tk:Nat} (h:Qs J W s) (o:Obj),Qp J X W s W {s with heap:=s.heap.push o,toks:=tk}:=by iterate 3 exact ((Qp.grow (X:=[]) (s':={s with heap:=s.heap.push o,toks:=tk}) h (fun _ _ _ e=>aF _ e) (fun _ o' e=>⟨o',aF _ e⟩) (by simp) rfl rfl).weaken (by simp))
theorem bv:∀ (h:Heap),h.get? h.objs.size=none:=by iterate 1 cases e:h.get? h.objs.size with | none=>rfl | some o=>exact absurd (dK e) (kE _)
theorem Qs.QQ:∀ {a:Addr} (h:Qs J W s) (ha:s.heap.get? a=none),W.F a=none/\a∉J.T/\a∉W.QK.flatten:=by iterate 3
 refine ⟨?_,fun hm=>?_,fun hm=>?_⟩
 ·cases e:W.F a with | none=>rfl | some o=>have:=h.sub a o e;rw [ha] at this;cases this
 ·obtain ⟨T,hT,rfl⟩:=aH.mp hm;have h3:=h.tab T hT;rcases h3 with h3 | ⟨_,_,_,_,h3,_⟩<;>(rw [ha] at h3;cases h3)
 ·obtain ⟨o,e⟩:=(h.RI a hm).2.2;rw [ha] at e;cases e
theorem Qp.Tv:∀ {tk:Nat} (h:Qs J W s) (o:Obj) (hf:o.isFreed=false:=by rfl),Qp J X W s (W.Q8 s.heap.objs.size o) {s with heap:=s.heap.push o,toks:=tk}:=by iterate 4
 exact (let n:=h.QQ (bv _)
 Qp.Q8 (Qp.push h o) (ax _ hf) (bv _) n.2.1 n.2.2)
theorem Rf.isList:∀ {F:PM} {a:Addr} {vs:List ag} (x:Rf F a vs) (h:∀ b o,F b=some o->s.heap.get? b=some o),s.heap.IsList a vs.toArray:=by iterate 5 obtain ⟨o,n,e,c,_,d⟩:=x;exact ⟨o,h _ _ e,c,n,d⟩
theorem Sn.Ur:∀ {F:PM} {a:Addr} {vs:List ag} (x:Sn F a vs) (h:∀ b o,F b=some o->s.heap.get? b=some o),s.heap.IsTuple a vs.toArray:=by iterate 5 obtain ⟨o,n,e,c,_,d⟩:=x;exact ⟨o,h _ _ e,c,n,d⟩
theorem Rf.of:∀ {F:PM} {a:Addr} {vs:List ag} {n:Nat} (h:F a=some {cls:= .type "list",data:= .seq vs.toArray n}),Rf F a vs:=by iterate 5 exact (⟨_,n,h,rfl,rfl,rfl⟩)
theorem Sn.of:∀ {F:PM} {a:Addr} {vs:List ag} {n:Nat} (h:F a=some {cls:= .type "tuple",data:= .seq vs.toArray n}),Sn F a vs:=by iterate 5 exact (⟨_,n,h,rfl,rfl,rfl⟩)
theorem pt:lim<=dw:=by iterate 0 decide
end
section
variable {J:Cx} {A:bf} {W:Wd} {s:ah} {X:List Addr}
noncomputable abbrev Dd (J:Cx) (H:G) (d:D) (v:ag) (W:Wd) (_s:ah):Prop:=W.H=H/\Rd J W.F W.as d v
theorem ve:∀ {a:Int} (h:lw a=true),a.natAbs<2 ^ 64:=by iterate 2 have:=of_decide_eq_true h;omega
theorem xO:∀ {a:Int} (h:lw a=true),gL a<=64:=by iterate 2 have:=ve h;exact intBits_le_64 (by omega) (by omega)
theorem xB:∀ {a b:Int} (h:lw b=true),iQ a b=false:=by iterate 3
 have h1:=ve h;unfold iQ;have h2:b.natAbs.log2<64:=by
  by_cases z:b.natAbs=0
  ·rw [z];decide
  ·exact (iz z).mpr h1
 have:¬ ((if (b==0)=true then 0 else b.natAbs.log2 / 30+1) > 300):=by split<;>omega
 simp only [this,decide_false,j2]
theorem BN:∀ {a:Int} (h:0<=a),ju a 1=a.fmod 2:=by iterate 2 rw [bitAnd_pp h (by decide)];have:(1:Int).toNat=1:=rfl;rw [this,Nat.and_one_is_mod,aU _ (by decide)];omega
theorem Er:∀ (a:Int),lY a= -a-1:=by iterate 1 simp [lY]
theorem nw:∀ {i:Int} {t tk:Nat} (hw:Qs J W s),∃ W',Qp J X W s W' {s with toks:=tk}/\Dd J W.H (.int i) (.int i t) W' {s with toks:=tk}:=by iterate 4 exact (⟨W,Qp.toks hw,rfl,by dsimp only [Rd];exact ⟨_,rfl⟩⟩)
theorem ug:∀ {x:List Nat} {t tk:Nat} (hw:Qs J W s) (hl:x.length<=lim),∃ W',Qp J X W s W' {s with toks:=tk}/\Dd J W.H (.str x) (.str ⟨x.toArray⟩ t) W' {s with toks:=tk}:=by iterate 5 exact (⟨W,Qp.toks hw,rfl,by dsimp only [Rd];exact ⟨hl,_,rfl⟩⟩)
theorem pq:∀ {b:Bool} (hw:Qs J W s),∃ W',Qp J X W s W' s/\Dd J W.H (.bool b) (.bool b) W' s:=by iterate 2 exact (⟨W,Qp.refl hw,rfl,by dsimp only [Rd]⟩)
theorem zn:∀ {b:Bool} {tk:Nat} (hw:Qs J W s),∃ W',Qp J X W s W' {s with toks:=tk}/\Dd J W.H (.bool b) (.bool b) W' {s with toks:=tk}:=by iterate 3 exact (⟨W,Qp.toks hw,rfl,by dsimp only [Rd]⟩)
theorem sH:∀ {ds:List D} {vs:List ag} {ar:Array ag} {tk:Nat} (hw:Qs J W s) (r:Qt J W.F W.as ds vs) (hl:ds.length<=lim) (e:ar=vs.toArray),∃ W',Qp J X W s W' {s with heap:=s.heap.push {cls:= .type "list",data:= .seq ar},toks:=tk}/\Dd J W.H (.lst ds) (.ref s.heap.objs.size) W' {s with heap:=s.heap.push {cls:= .type "list",data:= .seq ar},toks:=tk}:=by iterate 8 subst e;have k:=Qp.Tv (X:=X) (tk:=tk) hw {cls:= .type "list",data:= .seq vs.toArray};refine ⟨_,k,rfl,?_⟩;dsimp only [Rd];exact ⟨hl,_,vs,rfl,Rf.of (n:=0) (oT ..),r.mono k.le (Pre.refl _)⟩
theorem Ds:∀ {ds:List D} {vs:List ag} {ar:Array ag} {tk:Nat} (hw:Qs J W s) (r:Qt J W.F W.as ds vs) (hl:ds.length<=lim) (e:ar=vs.toArray),∃ W',Qp J X W s W' {s with heap:=s.heap.push {cls:= .type "tuple",data:= .seq ar},toks:=tk}/\Dd J W.H (.tup ds) (.ref s.heap.objs.size) W' {s with heap:=s.heap.push {cls:= .type "tuple",data:= .seq ar},toks:=tk}:=by iterate 8 subst e;have k:=Qp.Tv (X:=X) (tk:=tk) hw {cls:= .type "tuple",data:= .seq vs.toArray};refine ⟨_,k,rfl,?_⟩;dsimp only [Rd];exact ⟨hl,_,vs,rfl,Sn.of (n:=0) (oT ..),r.mono k.le (Pre.refl _)⟩
theorem io:∀ {F:PM} {as:List Addr} {ds:List D} {v:ag} (h:Rd J F as (.lst ds) v),ds.length<=lim/\∃ a vs n sl,v= .ref a/\F a=some ⟨.type "list",none,.seq vs.toArray n,sl⟩/\Qt J F as ds vs:=by iterate 5 dsimp only [Rd] at h;obtain ⟨h1,a1,vs,rfl,⟨⟨c1,d1,dt1,s1⟩,n1,e1,rfl,rfl,rfl⟩,r1⟩:=h;exact ⟨h1,a1,vs,n1,s1,rfl,e1,r1⟩
theorem qH:∀ {F:PM} {as:List Addr} {ds:List D} {v:ag} (h:Rd J F as (.tup ds) v),ds.length<=lim/\∃ a vs n sl,v= .ref a/\F a=some ⟨.type "tuple",none,.seq vs.toArray n,sl⟩/\Qt J F as ds vs:=by iterate 5 dsimp only [Rd] at h;obtain ⟨h1,a1,vs,rfl,⟨⟨c1,d1,dt1,s1⟩,n1,e1,rfl,rfl,rfl⟩,r1⟩:=h;exact ⟨h1,a1,vs,n1,s1,rfl,e1,r1⟩
theorem xk:∀ {op:iE} {a b d:D} {va vb:ag} (e:binop op a b=some d) (ha:Rd J W.F W.as a va) (hb:Rd J W.F W.as b vb) (hw:Qs J W s),Ex J A (binaryOp op va vb) X W s (Dd J W.H d):=by iterate 10
 cases op with
 | Add=>
  cases a with
  | int i=>replace e:=bi e;obtain ⟨j,h1,e⟩:=e;cases be h1;obtain ⟨t,rfl⟩:=ha;obtain ⟨u,rfl⟩:=hb;cases e;exact add_int (nw hw)
  | str x=>
   replace e:=bi e;obtain ⟨y,h1,e⟩:=e;cases oO h1;obtain ⟨_,t,rfl⟩:=ha;obtain ⟨_,u,rfl⟩:=hb;obtain ⟨hl,rfl⟩:=vJ e;refine oD (fun t' tk=>?_) ?_
   ·have z:=ug (t:=t') (tk:=tk) (X:=X) hw hl;rw [<-lz] at z;exact z
   ·have:=pt;simp only [du,a7,aw] at *;omega
  | lst x=>
   replace e:=bi e;obtain ⟨y,h1,e⟩:=e;cases pu h1;obtain ⟨h1,a1,vs,n1,s1,rfl,e1,r1⟩:=io ha;obtain ⟨h2,a2,ws,n2,s2,rfl,e2,r2⟩:=io hb;obtain ⟨hl,rfl⟩:=tG e;have g1:=hw.sub _ _ e1;have g2:=hw.sub _ _ e2;refine concat_meets ⟨_,g1,rfl⟩ ⟨_,g2,rfl⟩ noFill_list_add seq_list_add PySem.F.slot_list_add PySem.F.entry_list_add (PySem.F.args_list_add_2 _ _) (list_addW a1 a2 vs.toArray ws.toArray n1 n2 none none s1 s2 ?_) ⟨g1,g2,?_⟩
   ·have:=pt;have l1:=r1.length;have l2:=r2.length;simp only [a7,aw] at *;omega
   ·exact sH (tk:=s.toks) hw (r1.append r2) hl (by simp)
  | _=>cases e
 | Sub=>replace e:=pY e;obtain ⟨i,j,rfl,rfl,e⟩:=e;obtain ⟨t,rfl⟩:=ha;obtain ⟨u,rfl⟩:=hb;cases e;exact sub_int (nw hw)
 | Mult=>
  replace e:=pY e;obtain ⟨i,j,rfl,rfl,e⟩:=e;obtain ⟨t,rfl⟩:=ha;obtain ⟨u,rfl⟩:=hb;split at e
  ·rename_i hs;cases e;refine mul_int (nw hw) ?_;rcases (jD _ _).mp hs with h | h
   ·exact IntMulOk.of_right (xO h)
   ·exact IntMulOk.of_left (xO h)
  ·cases e
 | FloorDiv=>
  replace e:=pY e;obtain ⟨i,j,rfl,rfl,e⟩:=e;obtain ⟨t,rfl⟩:=ha;obtain ⟨u,rfl⟩:=hb;split at e
  ·rename_i hs;cases e;exact floordiv_int hs.1 (nw hw) (.inl (xB hs.2))
  ·cases e
 | Mod=>
  replace e:=pY e;obtain ⟨i,j,rfl,rfl,e⟩:=e;obtain ⟨t,rfl⟩:=ha;obtain ⟨u,rfl⟩:=hb;split at e
  ·rename_i hs;cases e;exact mod_int' hs (nw hw)
  ·cases e
 | Pow=>
  replace e:=pY e;obtain ⟨i,j,rfl,rfl,e⟩:=e;obtain ⟨t,rfl⟩:=ha;obtain ⟨u,rfl⟩:=hb;split at e
  ·rename_i hs;cases e;exact pow_int_small hs.1 hs.2.1 (ve hs.2.2) (nw hw)
  ·cases e
 | LShift=>
  replace e:=pY e;obtain ⟨i,j,rfl,rfl,e⟩:=e;obtain ⟨t,rfl⟩:=ha;obtain ⟨u,rfl⟩:=hb;split at e
  ·rename_i hs;cases e;exact lshift_int_small hs.1 hs.2.1 (ve hs.2.2) (nw hw)
  ·cases e
 | RShift=>
  replace e:=pY e;obtain ⟨i,j,rfl,rfl,e⟩:=e;obtain ⟨t,rfl⟩:=ha;obtain ⟨u,rfl⟩:=hb;split at e
  ·rename_i hs;cases e;exact rshift_int hs (nw hw)
  ·cases e
 | BitAnd=>
  replace e:=pY e;obtain ⟨i,j,rfl,rfl,e⟩:=e;obtain ⟨t,rfl⟩:=ha;obtain ⟨u,rfl⟩:=hb;split at e
  ·rename_i hs;obtain ⟨h0,rfl⟩:=hs;cases e;refine and_int ?_;rw [BN h0];exact nw hw
  ·cases e
 | _=>cases e
theorem wW:∀ {op:iE} {a b d:D} {va vb:ag} (e:inop op a b=some d) (ha:Rd J W.F W.as a va) (hb:Rd J W.F W.as b vb) (hw:Qs J W s),Ex J A (inplaceOp op va vb) X W s (Dd J W.H d):=by iterate 10
 cases op with
 | Add=>
  cases a with
  | int i=>replace e:=bi e;obtain ⟨j,h1,e⟩:=e;cases be h1;obtain ⟨t,rfl⟩:=ha;obtain ⟨u,rfl⟩:=hb;cases e;exact wpAny_iadd_int (nw hw)
  | str x=>
   replace e:=bi e;obtain ⟨y,h1,e⟩:=e;cases oO h1;obtain ⟨_,t,rfl⟩:=ha;obtain ⟨_,u,rfl⟩:=hb;obtain ⟨hl,rfl⟩:=vJ e;refine oz (fun t' tk=>?_) ?_
   ·have z:=ug (t:=t') (tk:=tk) (X:=X) hw hl;rw [<-lz] at z;exact z
   ·have:=pt;simp only [du,a7,aw] at *;omega
  | _=>cases e
 | Sub=>replace e:=pY e;obtain ⟨i,j,rfl,rfl,e⟩:=e;obtain ⟨t,rfl⟩:=ha;obtain ⟨u,rfl⟩:=hb;cases e;exact isub_int (nw hw)
 | _=>cases e
theorem Ic:∀ {op:UnaryOp} {a d:D} {va:ag} (e:Oi op a=some d) (ha:Rd J W.F W.as a va) (hw:Qs J W s),Ex J A (unaryOp op va) X W s (Dd J W.H d):=by iterate 7 cases op with | USub=>replace e:=bi e;obtain ⟨i,h,e⟩:=e;cases be h;obtain ⟨t,rfl⟩:=ha;cases e;exact jo (nw hw) | Invert=>replace e:=bi e;obtain ⟨i,h,e⟩:=e;cases be h;obtain ⟨t,rfl⟩:=ha;cases e;refine invert_int ?_;rw [Er];exact nw hw | _=>cases e
theorem DV:∀ (a b:List Nat),((⟨a.toArray⟩:Str)==⟨b.toArray⟩)=(a==b):=by iterate 2 rw [c8];simp
theorem yi:∀ {f:D->D->Option Bool} {as:List D},∀ {bs:List D} {r:Bool},wT f as bs=some r->as.length=bs.length/\∃ e:Nat->Bool,(∀ (i:Nat) a b,as[i]? =some a->bs[i]? =some b->f a b=some (e i))/\r=(aN as.length).all e:=by iterate 2
 induction as with
 | nil=>intro bs r h;obtain ⟨_,h1,h⟩:=bi h;cases oY h1;cases h;exact ⟨rfl,fun _=>true,fun i a b ha=>by simp at ha,rfl⟩
 | cons a as ih=>
  intro bs r h;replace h:=vK h;obtain ⟨⟨b,bs'⟩,h1,x,hx,y,hy,h⟩:=h;cases qL h1;cases h;obtain ⟨hl,e,he,hr⟩:=ih hy;refine ⟨congrArg (· +1) hl,fun i=>match i with | 0=>x | i+1=>e i,fun i a' b' ha hb=>?_,?_⟩
  ·cases i with | zero=>simp at ha hb;subst ha hb;exact hx | succ i=>simp at ha hb;exact he i a' b' ha hb
  ·rw [hr,aI,gO,ez,iV];rfl
noncomputable def KS (A:bf) (s:ah) (u v:ag) (b:Bool):Prop:=SeqAt.RcAt A s u v b/\SeqAt.RcNeAt A s u v (!b)/\oq A s u v b
theorem EJ:∀ {A:bf} {k:Nat} (h:A.units+(k+1)<mj),A.in1.units+k<mj:=by iterate 3 show A.units+1+k<mj;omega
theorem rR:∀ {ws:List (Int×ag)} {QC:List (Int×Int)},Sb ws QC->∀ k:Int,(∀ i,QC.lookup k=some i->∃ t,kr ws k=some (.int i t))/\(QC.lookup k=none->kr ws k=none):=by iterate 0
 intro ws;induction ws with
 | nil=>intro _ h k;dsimp only [Sb] at h;subst h;simp [kr]
 | cons RA r Qo=>
  obtain ⟨j,v⟩:=RA;intro _ h k;dsimp only [Sb] at h;obtain ⟨i,t,r',rfl,rfl,h⟩:=h;by_cases e:j=k
  ·subst e;simp [kr,cG]
  ·have z:=Qo h k;have e':(k==j)=false:=by simpa using fun q=>e q.symm
   simp only [cG,e'];have:kr ((j,dZ i t)::r) k=kr r k:=by simp [kr,List.find?,e]
   rw [this];exact z
theorem Sb.length:∀ {ws:List (Int×ag)} {QC:List (Int×Int)},Sb ws QC->ws.length=QC.length:=by iterate 0 intro ws;induction ws with | nil=>intro _ h;dsimp only [Sb] at h;subst h;rfl | cons RA r Qo=>obtain ⟨j,v⟩:=RA;intro _ h;dsimp only [Sb] at h;obtain ⟨i,t,r',rfl,rfl,h⟩:=h;simp [Qo h]
theorem Ak:∀ {A:bf} {wb:List (Int×ag)} {kb:List (Int×Int)} (hb:Sb wb kb),∀ {wa:List (Int×ag)} {ka:List (Int×Int)},Sb wa ka->PySem.W.KeqHits A s wb wa (ka.all fun p=>kb.lookup p.1==some p.2):=by iterate 4
 intro wa;induction wa with
 | nil=>intro _ h;dsimp only [Sb] at h;subst h;exact .nil
 | cons RA r Qo=>
  obtain ⟨j,v⟩:=RA;intro _ h;dsimp only [Sb] at h;obtain ⟨i,t,r',rfl,rfl,h⟩:=h;have z:=rR hb j;rw [ez];cases e:kb.lookup j with
  | none=>simp only [e];exact .miss (z.2 e)
  | some i'=>
   obtain ⟨t',h'⟩:=z.1 i' e;have q:=mT (A:=A) (s:=s) (k:=j) (r:=r) h' (j5 i t i' t') (Qo h);have:((some i'==some i):Bool)=(i==i'):=by show (i'==i)=(i==i');rw [c8];exact ⟨fun h=>by rw [eq_of_beq h];exact beq_self_eq_true _,fun h=>by rw [eq_of_beq h];exact beq_self_eq_true _⟩
   simp only [e,this];exact q
theorem TP.dictOf:∀ {F:PM} {a:Addr} {QC:List (Int×Int)} (h:TP J F a QC) (hs:∀ b o,F b=some o->s.heap.get? b=some o),∃ ws,s.heap.DictOf (IK J) a ws/\Sb ws QC:=by iterate 5 obtain ⟨o,ws,ep,e,p,k⟩:=h;obtain ⟨o',es,h1,h2,h3,h4,h5,h6⟩:=p s.heap (hs _ _ e);exact ⟨ws,⟨o',es,ep,h1,h2,h3,h4,h5,h6⟩,k⟩
end
theorem xx:∀ {J:Cx} {F:PM} {as:List Addr},∀ (k:Nat) {a b:D} {v:ag} {r:Bool},ru k a b=some r->Rd J F as a v->Rd J F as b v->r=true:=by iterate 3
 intro k;induction k with
 | zero=>intro _ _ _ _ h;cases h
 | succ k ih=>
  intro a b v r h ha hb;have sub:∀ {xs ys:List D} {vs:List ag} {r:Bool},wT (ru k) xs ys=some r->Qt J F as xs vs->Qt J F as ys vs->r=true:=by intro xs ys vs r h p q;obtain ⟨hl,e,he,rfl⟩:=yi h;rw [aj];intro j hj;have XW:=cz.mp hj;have g1:xs[j]? =some xs[j]:=au XW;have g2:ys[j]? =some (ys[j]'(hl▸XW)):=au (hl▸XW);obtain ⟨v1,q1,p1⟩:=p.get g1;obtain ⟨v2,q2,p2⟩:=q.get g2;rw [q1] at q2;cases q2;exact ih (he j _ _ g1 g2) p1 p2
  cases a with
  | none=>replace h:=bi h;obtain ⟨_,_,h⟩:=h;cases h;rfl
  | bool x=>replace h:=bi h;obtain ⟨y,h1,h⟩:=h;cases pU h1;cases (show v= .bool x from ha).symm.trans hb;cases h;exact beq_self_eq_true _
  | int x=>replace h:=bi h;obtain ⟨y,h1,h⟩:=h;cases be h1;obtain ⟨t,rfl⟩:=ha;obtain ⟨t',hb⟩:=hb;cases hb;cases h;exact beq_self_eq_true _
  | str x=>replace h:=bi h;obtain ⟨y,h1,h⟩:=h;cases oO h1;obtain ⟨_,t,rfl⟩:=ha;obtain ⟨_,t',hb⟩:=hb;cases h;injection hb with h1 h2;have:=congrArg (fun x:Str=>x.cps.toList) h1;simp only [lr] at this;rw [this];exact beq_self_eq_true _
  | tup x=>
   replace h:=bi h;obtain ⟨y,h1,h⟩:=h;cases xG h1;split at h
   ·obtain ⟨_,a1,vs,n1,s1,rfl,e1,r1⟩:=qH ha;obtain ⟨_,a2,ws,n2,s2,hq,e2,r2⟩:=qH hb;injection hq with hq;subst hq;rw [e1] at e2;have:vs=ws:=by simp at e2;exact e2.1.1
    subst this;exact sub h r1 r2
   ·cases h
  | lst x=>
   replace h:=bi h;obtain ⟨y,h1,h⟩:=h;cases pu h1;obtain ⟨_,a1,vs,n1,s1,rfl,e1,r1⟩:=io ha;obtain ⟨_,a2,ws,n2,s2,hq,e2,r2⟩:=io hb;injection hq with hq;subst hq;rw [e1] at e2;have:vs=ws:=by simp at e2;exact e2.1.1
   subst this;split at h
   ·exact sub h r1 r2
   ·rename_i hl;exact absurd (r1.length.symm.trans r2.length) hl
  | _=>cases h
theorem HX:∀ {J:Cx} {F:PM} {as:List Addr} {s:ah} (hs:∀ b o,F b=some o->s.heap.get? b=some o),∀ (k:Nat) {A:bf} {a b:D} {u v:ag} {r:Bool},A.units+(k+1)<mj->ru k a b=some r->Rd J F as a u->Rd J F as b v->
  KS A s u v r:=by iterate 5
 intro k;induction k with
 | zero=>intro _ _ _ _ _ _ _ h;cases h
 | succ k ih=>
  intro A a b u v r hu h ha hb;have WO:A.units<mj:=by omega
  have sub:∀ {xs ys:List D} {vs ws:List ag} {e:Nat->Bool},xs.length=ys.length->(∀ (i:Nat) a b,xs[i]? =some a->ys[i]? =some b->ru k a b=some (e i))->Qt J F as xs vs->Qt J F as ys ws->
    ∀ j (h1:j<vs.toArray.size) (h2:j<ws.toArray.size),oq A.in1 s vs.toArray[j] ws.toArray[j] (e j):=by
   intro xs ys vs ws e hl he r1 r2 j h1 h2;have l1:=r1.length;have l2:=r2.length;simp only [a7] at h1 h2;have g1:xs[j]? =some (xs[j]'(by omega)):=au (by omega);have g2:ys[j]? =some (ys[j]'(by omega)):=au (by omega);obtain ⟨v1,q1,p1⟩:=r1.get g1;obtain ⟨v2,q2,p2⟩:=r2.get g2;have c1:vs.toArray[j]=v1:=by simp only [kY];exact (ak.mp q1).2
   have c2:ws.toArray[j]=v2:=by simp only [kY];exact (ak.mp q2).2
   rw [c1,c2];exact (ih (EJ hu) (he j _ _ g1 g2) p1 p2).2.2
  have all:=h;cases a with
  | none=>replace h:=bi h;obtain ⟨_,h1,h⟩:=h;cases sf h1;cases ha;cases hb;cases h;exact ⟨SeqAt.RcAt.none_none,oh,SeqAt.EqAt.same _⟩
  | bool x=>replace h:=bi h;obtain ⟨y,h1,h⟩:=h;cases pU h1;cases ha;cases hb;cases h;exact ⟨SeqAt.RcAt.bool_bool _ _,oo _ _,SeqAt.EqAt.bool_bool _ _⟩
  | int x=>replace h:=bi h;obtain ⟨y,h1,h⟩:=h;cases be h1;obtain ⟨t,rfl⟩:=ha;obtain ⟨t',rfl⟩:=hb;cases h;exact ⟨SeqAt.RcAt.int_int _ _ _ _,om _ _ _ _,j5 _ _ _ _⟩
  | str x=>replace h:=bi h;obtain ⟨y,h1,h⟩:=h;cases oO h1;obtain ⟨_,t,rfl⟩:=ha;obtain ⟨_,t',rfl⟩:=hb;cases h;rw [<-DV];exact ⟨SeqAt.RcAt.str_str _ _ _ _,og _ _ _ _,SeqAt.EqAt.str_str _ _ _ _⟩
  | tup xs=>
   replace h:=bi h;obtain ⟨ys,h1,h⟩:=h;cases xG h1;split at h
   ·rename_i hl;have Vv:=ha;have Sv:=hb;obtain ⟨_,a1,vs,n1,s1,rfl,e1,r1⟩:=qH ha;obtain ⟨_,a2,ws,n2,s2,rfl,e2,r2⟩:=qH hb;obtain ⟨_,e,he,rfl⟩:=yi h;have Wl:s.heap.IsTuple a1 vs.toArray:=⟨_,hs _ _ e1,rfl,_,rfl⟩
    have UB:s.heap.IsTuple a2 ws.toArray:=⟨_,hs _ _ e2,rfl,_,rfl⟩
    have l1:=r1.length;have l2:=r2.length;have key:=sub hl he r1 r2;have em:((aN (min vs.toArray.size ws.toArray.size)).all e&&vs.toArray.size==ws.toArray.size)=(aN xs.length).all e:=by simp only [a7,l1,l2,hl,Nat.min_self,beq_self_eq_true,Bool.and_true]
    have rc:=SeqAt.RcAt.tuples Wl UB WO key;have rn:=nZ Wl UB WO key;rw [em] at rc rn;refine ⟨rc,rn,?_⟩;by_cases hq:a1=a2
    ·subst hq;rw [xx (k+1) all Vv Sv];exact .same _
    ·exact .of_refs hq rc
   ·cases h
  | lst xs=>
   replace h:=bi h;obtain ⟨ys,h1,h⟩:=h;cases pu h1;have Vv:=ha;have Sv:=hb;obtain ⟨_,a1,vs,n1,s1,rfl,e1,r1⟩:=io ha;obtain ⟨_,a2,ws,n2,s2,rfl,e2,r2⟩:=io hb;have Wl:s.heap.IsList a1 vs.toArray:=⟨_,hs _ _ e1,rfl,_,rfl⟩
   have UB:s.heap.IsList a2 ws.toArray:=⟨_,hs _ _ e2,rfl,_,rfl⟩
   have l1:=r1.length;have l2:=r2.length;split at h
   ·rename_i hl;obtain ⟨_,e,he,rfl⟩:=yi h;have key:=sub hl he r1 r2;have hz:vs.toArray.size=ws.toArray.size:=by simp only [a7];omega
    have em:(aN vs.toArray.size).all e=(aN xs.length).all e:=by simp only [a7,l1]
    have rc:=SeqAt.RcAt.lists Wl UB hz WO key;have rn:=oj Wl UB hz WO key;rw [em] at rc rn;refine ⟨rc,rn,?_⟩;by_cases hq:a1=a2
    ·subst hq;rw [xx (k+1) all Vv Sv];exact .same _
    ·exact .of_refs hq rc
   ·rename_i hl;cases h;have hz:(vs.toArray.size !=ws.toArray.size)=true:=by simp only [a7,l1,l2];simpa using hl
    refine ⟨iR Wl UB hz WO,oi Wl UB hz WO,?_⟩;by_cases hq:a1=a2
    ·subst hq;exact absurd (xx (k+1) all Vv Sv) (by simp)
    ·exact .of_refs hq (iR Wl UB hz WO)
  | _=>cases h
section
variable {J:Cx} {A:bf} {W:Wd} {s:ah} {X:List Addr}
noncomputable def xE (J:Cx) (h:Heap):Prop:=(J.UX==iB)=false/\∃ f:Str->Option ag,h.MapOf (gu P0 J.w) J.UX f/\∀ x:List Nat,match (qm P0).lookup x with
| none=>f ⟨x.toArray⟩=none
| some i=>∃ t,f ⟨x.toArray⟩=some (.int i t)
theorem Gr:∀ {a b:D} {r:Bool} (e:Po a b=some r),(∃ x y,a= .QH x/\b= .QH y/\r=tH x y)\/ru 6 a b=some r:=by iterate 4 cases a with | QH x=>replace e:=bi e;obtain ⟨y,h1,e⟩:=e;cases e;exact .inl ⟨x,y,rfl,Bw h1,rfl⟩ | _=>exact .inr e
theorem Gp:∀ {op:CmpOp} {a b:D} {r:Bool} {u v:ag} (hA:A.units+400<mj) (e:cmp P0 op a b=some r) (ha:Rd J W.F W.as a u) (hb:Rd J W.F W.as b v) (hw:Qs J W s) (hT:xE J s.heap),Ex J A (compareOp op u v) X W s (Dd J W.H (.bool r)):=by iterate 12
 cases op with
 | Eq=>
  rcases Gr e with ⟨x,y,rfl,rfl,rfl⟩ | e
  ·obtain ⟨_,a1,rfl,n1,p1⟩:=ha;obtain ⟨_,a2,rfl,n2,p2⟩:=hb;obtain ⟨ws,d1,k1⟩:=p1.dictOf hw.sub;obtain ⟨us,d2,k2⟩:=p2.dictOf hw.sub;refine PySem.W.keq_eq n1 n2 d1 d2 (by omega) (fun _=>Ak k2 k1) ?_;rw [k1.length,k2.length];exact pq hw
  ·exact (HX hw.sub 6 (by omega) e ha hb).1 _ _ _ _ (pq hw)
 | NotEq=>
  replace e:=bi e;obtain ⟨r',e,h2⟩:=e;cases h2;rcases Gr e with ⟨x,y,rfl,rfl,rfl⟩ | e
  ·obtain ⟨_,a1,rfl,n1,p1⟩:=ha;obtain ⟨_,a2,rfl,n2,p2⟩:=hb;obtain ⟨ws,d1,k1⟩:=p1.dictOf hw.sub;obtain ⟨us,d2,k2⟩:=p2.dictOf hw.sub;refine PySem.W.keq_ne n1 n2 d1 d2 (by omega) (fun _=>Ak k2 k1) ?_;rw [k1.length,k2.length];exact pq hw
  ·exact (HX hw.sub 6 (by omega) e ha hb).2.1 _ _ _ _ (pq hw)
 | Lt=>replace e:=qO e;obtain ⟨i,h1,j,h2,e⟩:=e;cases be h1;cases be h2;cases e;obtain ⟨t,rfl⟩:=ha;obtain ⟨t',rfl⟩:=hb;exact ox (pq hw)
 | LtE=>replace e:=qO e;obtain ⟨i,h1,j,h2,e⟩:=e;cases be h1;cases be h2;cases e;obtain ⟨t,rfl⟩:=ha;obtain ⟨t',rfl⟩:=hb;exact oy (pq hw)
 | GtE=>replace e:=qO e;obtain ⟨i,h1,j,h2,e⟩:=e;cases be h1;cases be h2;cases e;obtain ⟨t,rfl⟩:=ha;obtain ⟨t',rfl⟩:=hb;exact oA (pq hw)
 | Is=>
  cases a with
  | none=>replace e:=bi e;obtain ⟨_,h1,e⟩:=e;cases sf h1;cases ha;cases hb;cases e;exact is_none (pq hw)
  | int i=>replace e:=bi e;obtain ⟨_,h1,e⟩:=e;cases sf h1;obtain ⟨t,rfl⟩:=ha;cases hb;cases e;exact is_none (pq hw)
  | bool x=>
   replace e:=bi e;obtain ⟨y,h1,e⟩:=e;cases pU h1;cases ha;cases hb;cases e;refine wpAny_is_plain rfl ?_;have e:((bJ x==bJ y):Bool)=(x==y):=by cases x<;>cases y<;>rfl
   rw [e];exact pq hw
  | _=>cases e
 | IsNot=>
  replace e:=qO e;obtain ⟨x,h1,y,h2,e⟩:=e;cases pU h1;cases pU h2;cases ha;cases hb;cases e;refine wpAny_isNot_plain rfl ?_;have e:((bJ x==bJ y):Bool)=(x==y):=by cases x<;>cases y<;>rfl
  rw [e];exact pq hw
 | In=>
  have str:OR a b=some r->Ex J A (compareOp .In u v) X W s (Dd J W.H (.bool r)):=fun e=>by replace e:=vK e;obtain ⟨x,h1,c,h2,y,h3,e⟩:=e;cases oO h1;cases oO h3;cases oX h2;obtain ⟨_,t,rfl⟩:=ha;obtain ⟨_,t',rfl⟩:=hb;cases e;refine P.in_str ?_;rw [kU];exact pq hw
  cases b with
  | tab=>replace e:=bi e;obtain ⟨x,h1,e⟩:=e;cases oO h1;obtain ⟨_,t,rfl⟩:=ha;cases hb;cases e;obtain ⟨n,f,m,k⟩:=hT;have hk:=k x;refine wpAny_in_of (knd:=gu P0 J.w) (k:=⟨x.toArray⟩) (by show ((⟨x.toArray⟩:Str)==⟨x.toArray⟩)=true;exact beq_self_eq_true _) n m ?_;have z:=fun q:Bool=>zn (b:=q) (X:=X) (tk:=s.toks+1) hw;cases h1:(qm P0).lookup x with | none=>rw [h1] at hk;rw [hk];exact z _ | some i=>rw [h1] at hk;obtain ⟨t',hk⟩:=hk;rw [hk];exact z _
  | _=>exact str e
 | NotIn=>replace e:=bi e;obtain ⟨r',e,h2⟩:=e;cases h2;replace e:=vK e;obtain ⟨x,h1,c,h2,y,h3,e⟩:=e;cases oO h1;cases oO h3;cases oX h2;obtain ⟨_,t,rfl⟩:=ha;obtain ⟨_,t',rfl⟩:=hb;cases e;refine P.notIn_str ?_;rw [kU];exact pq hw
 | _=>cases e
theorem jp:∀ (slice:Expr) (o i:ag),∃ ops,subscripted slice false o i=operate ops (mO o i):=by iterate 3 cases slice with | Slice a b c p=>cases c<;>exact ⟨_,rfl⟩ | _=>exact ⟨_,rfl⟩
theorem Ls:∀ {k:Int} (h:k<lim),k<2 ^ 63:=by iterate 2
 have:(lim:Int)<2 ^ 63:=by decide
 omega
theorem y8:∀ {k:Int} {n:Nat} (h0:0<=k) (h:k<n),mh k n=some k.toNat:=by iterate 4
 have e1:¬ k<0:=by omega
 simp [mh,e1,h0,h]
theorem JS:∀ {value slice:Expr} {a k d:D} {va vk:ag} (e:subD P0 a k=some d) (ha:Rd J W.F W.as a va) (hk:Rd J W.F W.as k vk) (hw:Qs J W s) (hT:xE J s.heap),Ex J A (jh value slice va vk) X W s (Dd J W.H d):=by iterate 12
 cases a with
 | lst xs=>replace e:=bi e;obtain ⟨j,h1,e⟩:=e;cases qC h1;obtain ⟨hl,a1,vs,n1,s1,rfl,e1,r1⟩:=io ha;obtain ⟨t,rfl⟩:=hk;obtain ⟨v,hv,hd⟩:=r1.get e;obtain ⟨ops,ho⟩:=jp slice (.ref a1) (.int j t);have RO:j<xs.length:=(ak.mp e).1;refine hO ⟨_,hw.sub _ _ e1,rfl⟩ dR.lookup ?_ ho;exact jf ⟨_,hw.sub _ _ e1,rfl,_,rfl⟩ (az j) (Ls (by omega)) (by simpa using hv) ⟨W,Qp.refl hw,rfl,hd⟩
 | tup xs=>replace e:=bi e;obtain ⟨j,h1,e⟩:=e;cases qC h1;obtain ⟨hl,a1,vs,n1,s1,rfl,e1,r1⟩:=qH ha;obtain ⟨t,rfl⟩:=hk;obtain ⟨v,hv,hd⟩:=r1.get e;obtain ⟨ops,ho⟩:=jp slice (.ref a1) (.int j t);have RO:j<xs.length:=(ak.mp e).1;have l1:=r1.length;refine hO ⟨_,hw.sub _ _ e1,rfl⟩ PySem.F.slot_tuple_getitem.lookup ?_ ho;refine getItem_tuple (j:=j) ⟨_,hw.sub _ _ e1,rfl,_,rfl⟩ (by omega) (Ls (by omega)) ?_ (by simpa using hv) ⟨W,Qp.refl hw,rfl,hd⟩;exact y8 (k:=(j:Int)) (az j) (by simp only [a7];omega)
 | str xs=>
  replace e:=qO e;obtain ⟨j,h1,c,e,h2⟩:=e;cases qC h1;cases h2;obtain ⟨hl,t,rfl⟩:=ha;obtain ⟨u,rfl⟩:=hk;obtain ⟨ops,ho⟩:=jp slice (.str ⟨xs.toArray⟩ t) (.int j u);have RO:j<xs.length:=(ak.mp e).1;refine hO (typeIs_str s _ t) jy.lookup ?_ ho;refine P.getItem_str (c:=c) ?_ ?_ (ug (x:=[c]) hw (by show 1<=lim;decide))
  ·have:=Ls (k:=j) (by omega);simp only [Bool.or_eq_false_iff,decide_eq_false_iff_not];omega
  ·rw [y8 (az j) (by show (j:Int)<((xs.toArray.size:Nat):Int);simp only [a7];omega)];simpa using e
 | QH QC=>replace e:=qO e;obtain ⟨k,h1,i,e,h2⟩:=e;cases be h1;cases h2;obtain ⟨hl,a1,rfl,n1,p1⟩:=ha;obtain ⟨u,rfl⟩:=hk;obtain ⟨ws,d1,k1⟩:=p1.dictOf hw.sub;obtain ⟨t,hv⟩:=(rR k1 k).1 i e;obtain ⟨ops,ho⟩:=jp slice (.ref a1) (.int k u);refine hO d1.mapOf.typeIs jn.lookup ?_ ho;exact nV (knd:=IK J) (k:=k) (by simp [intKind,Value.isInt]) d1.mapOf hv (nw hw)
 | tab=>replace e:=qO e;obtain ⟨x,h1,i,e,h2⟩:=e;cases oO h1;cases h2;cases ha;obtain ⟨_,u,rfl⟩:=hk;obtain ⟨n,f,m,h⟩:=hT;have h:=h x;rw [e] at h;obtain ⟨t,h⟩:=h;obtain ⟨ops,ho⟩:=jp slice (.ref J.UX) (.str ⟨x.toArray⟩ u);refine hO m.typeIs jn.lookup ?_ ho;exact nV (knd:=gu P0 J.w) (k:=⟨x.toArray⟩) (by show ((⟨x.toArray⟩:Str)==⟨x.toArray⟩)=true;exact beq_self_eq_true _) m h (nw hw)
 | _=>cases e
noncomputable def RP:Option Int->ag->Prop
| none,v=>v= .none
| some i,v=>∃ t,v= .int i t
theorem RP.Tg:∀ {o:Option Int} {v:ag} (h:RP o v),IsPart v o:=by iterate 3 cases o with | none=>dsimp only [RP] at h;subst h;exact .none | some i=>obtain ⟨t,rfl⟩:=h;exact .int i t
theorem Ks:∀ (xs:List α) (a b:Nat) (hb:b<=xs.length),(aN (b-a)).filterMap (fun k=>xs[a+k]?)=(xs.take b).drop a:=by iterate 4
 apply iP;intro i;have key:∀ (n a:Nat),a+n<=xs.length->(aN n).filterMap (fun k=>xs[a+k]?)=(xs.drop a).take n:=by intro n;induction n with | zero=>intro a _;simp | succ n ih=>intro a h;rw [dF,kN,ih a (by omega)];have:xs[a+n]? =some xs[a+n]:=au (by omega);simp only [fq,this,List.filterMap_nil];rw [gk,fJ,this];rfl
 by_cases h:a<=b
 ·rw [key (b-a) a (by omega)];rw [List.drop_take]
 ·have:b-a=0:=by omega
  rw [this];simp;omega
theorem Ci:∀ (n:Nat) (i:Int),max 0 (min (if i<0 then i+(n:Int) else i) (n:Int))=(pN n i:Int):=by iterate 2 unfold pN;split<;>omega
theorem uO:∀ (n:Nat) (hi:Option Int),o7 n hi<=n:=by iterate 2 cases hi with | none=>exact bN _ | some i=>show pN n i<=n;unfold pN;split<;>omega
theorem Ar:∀ (lo hi:Option Int) (n:Nat),lq (eW lo hi none n).1 (eW lo hi none n).2.1 (eW lo hi none n).2.2=
  (aN (o7 n hi-oU n lo)).map fun k=>oU n lo+k:=by iterate 3
 have hb:eW lo hi none n=(((oU n lo:Nat):Int),((o7 n hi:Nat):Int),1):=by unfold eW;simp only [gx,show ((1:Int) > 0)=True from by simp,if_true];cases lo<;>cases hi<;>simp only [oU,o7,Ci]<;>rfl
 rw [hb];show lq (oU n lo:Nat) (o7 n hi:Nat) 1=_;unfold lq;simp only [show ((1:Int) > 0)=True from by simp,if_true];have:(if ((oU n lo:Nat):Int)<((o7 n hi:Nat):Int) then (((o7 n hi:Nat):Int)-((oU n lo:Nat):Int)+1-1) / 1 else 0).toNat=o7 n hi-oU n lo:=by split<;>omega
 rw [this];apply cN;intro k _;omega
theorem uY:∀ (vs:List ag) (lo hi:Option Int),slicePick vs.toArray lo hi none=(slice vs lo hi).toArray:=by iterate 3 unfold slicePick slice;rw [show vs.toArray.size=vs.length from by simp,Ar,dy,<-Ks vs _ _ (uO _ _)];congr 1;congr 1;funext k;simp
theorem yN:∀ {F:PM} {as:List Addr} {ds:List D} {vs:List ag} (r:Qt J F as ds vs) (lo hi:Option Int),Qt J F as (slice ds lo hi) (slice vs lo hi):=by iterate 7
 have l:=r.length;have tk:∀ {ds:List D} {vs:List ag} (n:Nat),Qt J F as ds vs->Qt J F as (ds.take n) (vs.take n):=by
  intro ds vs n r;refine Qt.of_get (by simp [r.length]) fun i d v h1 h2=>?_;rw [List.getElem?_take] at h1 h2;split at h1
  ·rename_i hi;rw [if_pos hi] at h2;obtain ⟨v',q1,q2⟩:=r.get h1;rw [h2] at q1;cases q1;exact q2
  ·cases h1
 have dp:∀ {ds:List D} {vs:List ag} (n:Nat),Qt J F as ds vs->Qt J F as (ds.drop n) (vs.drop n):=by intro ds vs n r;refine Qt.of_get (by simp [r.length]) fun i d v h1 h2=>?_;rw [fJ] at h1 h2;obtain ⟨v',q1,q2⟩:=r.get h1;rw [h2] at q1;cases q1;exact q2
 unfold slice;rw [l];exact dp _ (tk _ r)
theorem xV:∀ {α:Type} (xs:List α) (l h:Option Int),(slice xs l h).length<=xs.length:=by iterate 4 unfold slice;simp;omega
theorem zh:∀ {F:PM} {as:List Addr},∀ {cs:List Nat} {vs:List ag},yk cs vs->Qt J F as (cs.map fun c=> .str [c]) vs:=by iterate 2 intro cs;induction cs with | nil=>intro _ h;dsimp only [yk] at h;subst h;rw [iU];dsimp only [Qt] | cons c cs Qo=>intro _ h;obtain ⟨v,r,rfl,⟨t,ht⟩,h2⟩:=h;rw [aB];dsimp only [Qt,Rd];exact ⟨v,r,rfl,⟨by simp [lim],t,ht⟩,Qo h2⟩
theorem sU:∀ {i:Nat} {mo:MO} {v:ag} (hw:Qs J W s) (h1:W.H[i]? =some mo) (h2:Rd J W.F W.as (.loc i) v),∃ a fp,v= .ref a/\W.as[i]? =some a/\W.QK[i]? =some fp/\RK J W.F W.as s.heap mo a fp:=by iterate 6
 dsimp only [Rd] at h2;obtain ⟨a,rfl,ha⟩:=h2;have hi:i<W.QK.length:=by rw [hw.Rm];exact (ak.mp h1).1
 exact ⟨a,_,rfl,ha,au hi,hw.obj i mo a _ h1 ha (au hi)⟩
theorem DI:∀ {a d:D} {l h:Option Int} {va vl vh:ag} {sl:Addr} (e:xz W.H a l h=some d) (ha:Rd J W.F W.as a va) (hl:RP l vl) (hh:RP h vh) (hw:Qs J W s) (hs:s.heap.IsSliceOf sl vl vh .none),Ex J A (mO va (.ref sl)) X W s (Dd J W.H d):=by iterate 14
 cases a with
 | lst xs=>obtain ⟨hlen,a1,vs,n1,s1,rfl,e1,r1⟩:=io ha;cases e;have Ru:=pt;have l1:=r1.length;refine gS ⟨_,hw.sub _ _ e1,rfl,_,rfl⟩ hs hl.Tg hh.Tg .none (by simp) ?_ (by simp only [a7];omega);exact sH (tk:=s.toks) hw (yN r1 l h) (bw (xV xs l h) hlen) (uY vs l h)
 | str xs=>
  obtain ⟨hlen,t,rfl⟩:=ha;cases e;obtain ⟨o,h1,h2,h3⟩:=hs;have key:∀ (x:Option Int) (v:ag),RP x v->∃ y:Option (Int×Tok),v=partValue y/\y.map (·.1)=x:=by intro x v hx;cases x with | none=>simp only [RP] at hx;subst hx;exact ⟨none,rfl,rfl⟩ | some i=>simp only [RP] at hx;obtain ⟨t,rfl⟩:=hx;exact ⟨some (i,t),rfl,rfl⟩
  obtain ⟨yl,rfl,ql⟩:=key _ _ hl;obtain ⟨yh,rfl,qh⟩:=key _ _ hh;have YC:(slice xs l h).length<=lim:=bw (xV xs l h) hlen;refine wpAny_getItem_str_slice (st:=none) ⟨o,h1,h2,h3⟩ rfl ?_;have XS:mL ⟨xs.toArray⟩ yl yh none=(aN (o7 xs.length h-oU xs.length l)).map fun k=>oU xs.length l+k:=by
   unfold mL;rw [ql,qh,<-Ar];have:(du ⟨xs.toArray⟩)=xs.length:=by simp [du]
   rw [this];rfl
  have hp:(mL ⟨xs.toArray⟩ yl yh none).filterMap (fun i=>(xs.toArray)[i]?)=slice xs l h:=by rw [XS,dy];unfold slice;rw [<-Ks xs _ _ (uO _ _)];congr 1;funext k;simp
  unfold sliceMade;split
  ·rename_i hc;have V2:=(ai _ _).mp hc |>.2;rw [XS] at V2;simp only [aG,lV,du,a7,beq_iff_eq] at V2;have hle:=uO xs.length h;have hs:slice xs l h=xs:=by
    unfold slice;by_cases hz:xs.length=0
    ·have:=eS hz;subst this;simp
    ·have a0:oU xs.length l=0:=by omega
     have b0:o7 xs.length h=xs.length:=by omega
     rw [a0,b0];simp
   rw [hs];exact ⟨W,Qp.refl hw,rfl,hlen,t,rfl⟩
  ·have Ru:=pt;refine ⟨?_,?_⟩
   ·show Array.size _<=dw;simp only [a7];rw [hp];omega
   ·show ∃ W',_;rw [hp];exact ug hw YC
 | loc j=>
  replace e:=qO e;obtain ⟨o,hj,cs,h1,e⟩:=e;cases e;cases sJ h1;obtain ⟨a,fp,rfl,Vv,Ut,hc,rfl,ss,⟨o,n,e1,e2,e3,e4⟩,TF⟩:=sU hw hj ha;have r1:=zh (J:=J) (F:=W.F) (as:=W.as) TF;have l1:=r1.length;have Ru:=pt;have hss:ss.size=cs.length:=by rw [<-bA,l1,aG]
  refine gS ⟨o,e1,e2,n,e4⟩ hs hl.Tg hh.Tg .none (by simp) ?_ (by omega);have:=uY ss.toList l h;exact sH (tk:=s.toks) hw (yN r1 l h) (bw (xV _ l h) (by simpa using hc)) (by simpa using this)
 | _=>cases e
theorem Iy:∀ {a d:D} {va:ag} {sl:Addr} {t:Nat} (e:I8 a=some d) (ha:Rd J W.F W.as a va) (hw:Qs J W s) (hs:s.heap.IsSliceOf sl .none .none (.int (-1) t)),Ex J A (mO va (.ref sl)) X W s (Dd J W.H d):=by iterate 9
 replace e:=bi e;obtain ⟨xs,h1,e⟩:=e;cases pu h1;obtain ⟨hlen,a1,vs,n1,s1,rfl,e1,r1⟩:=io ha;cases e;have Ru:=pt;have l1:=r1.length;refine gS ⟨_,hw.sub _ _ e1,rfl,_,rfl⟩ hs .none .none (.int (-1) t) (by simp) ?_ (by simp only [a7];omega);have hr:Qt J W.F W.as xs.reverse vs.reverse:=by
  refine Qt.of_get (by simp [l1]) fun i d v h1 h2=>?_;have hi:i<xs.length:=by simpa using (ak.mp h1).1
  rw [bP hi] at h1;rw [bP (by omega)] at h2;rw [l1] at h2;obtain ⟨v',q1,q2⟩:=r1.get h1;rw [h2] at q1;cases q1;exact q2
 refine sH (tk:=s.toks) hw hr (by simpa using hlen) ?_;unfold slicePick;congr 1;have hb:lq (eW none none (some (-1)) vs.toArray.size).1 (eW none none (some (-1)) vs.toArray.size).2.1 (eW none none (some (-1)) vs.toArray.size).2.2=(aN vs.length).map fun k=>vs.length-1-k:=by have:=picked_rev vs.length;rw [<-this];simp only [a7];rfl
 rw [hb,dy];apply iP;intro i;have QD:∀ n,n<=vs.length->((aN n).filterMap ((fun x=>vs.toArray[x]?) ∘ fun k=>vs.length-1-k))=vs.reverse.take n:=by intro n;induction n with | zero=>intro _;simp | succ n ih=>intro hn;rw [dF,kN,ih (by omega),gk];congr 1;rw [bP (by omega)];have:vs[vs.length-1-n]? =some (vs[vs.length-1-n]'(by omega)):=au (by omega);simp [this]
 rw [QD _ (bN _),gN (by simp)]
noncomputable abbrev li (J:Cx) (d:D) (g:G) (v:ag) (W:Wd) (_s:ah):Prop:=W.H=g/\Rd J W.F W.as d v
theorem qz:∀ {F:PM} {as:List Addr} {d:D} {vs:List ag} (r:Qt J F as [d] vs),∃ v,vs=[v]/\Rd J F as d v:=by iterate 5 dsimp only [Qt] at r;obtain ⟨v,_,rfl,h,rfl⟩:=r;exact ⟨v,rfl,h⟩
theorem uF:∀ {F:PM} {as:List Addr} {d e:D} {vs:List ag} (r:Qt J F as [d,e] vs),∃ v u,vs=[v,u]/\Rd J F as d v/\Rd J F as e u:=by iterate 6 dsimp only [Qt] at r;obtain ⟨v,_,rfl,h,u,_,rfl,h',rfl⟩:=r;exact ⟨v,u,rfl,h,h'⟩
theorem sV:∀ {F:PM} {as:List Addr} {vs:List ag} (r:Qt J F as [] vs),vs=[]:=by iterate 4 exact r
theorem xM:∀ {F:PM} {as:List Addr} {ds:List D},∀ {l:List Int} {vs:List ag},tg ds=some l->Qt J F as ds vs->IntsAre vs l:=by iterate 3 induction ds with | nil=>intro l vs e r;cases e;cases sV r;exact .nil | cons d ds ih=>intro l vs e r;obtain ⟨v,r',rfl,h,q⟩:=r;obtain ⟨i,h1,l',e1,h2⟩:=qO e;cases h2;cases be h1;obtain ⟨t,rfl⟩:=h;exact .cons _ t (ih e1 q)
theorem yC:∀ {vs:List ag} {l:List Int},IntsAre vs l->∃ xs:List (Int×Tok),vs=xs.map (fun p=>dZ p.1 p.2)/\xs.map (·.1)=l:=by iterate 0 intro vs l h;induction h with | nil=>exact ⟨[],rfl,rfl⟩ | cons n t h Qo=>obtain ⟨xs,e1,e2⟩:=Qo;exact ⟨(n,t)::xs,by rw [e1];rfl,by rw [aB,e2]⟩
theorem yQ:∀ {ds:List D} {vs:List ag} {d:D} {g:G} (e:Bu ds W.H=some (d,g)) (r:Qt J W.F W.as ds vs) (hw:Qs J W s),Ex J A (call (.builtin "len") vs) X W s (li J d g):=by iterate 7
 have QX:(lim:Int)<2 ^ 63:=by decide
 replace e:=qO e;obtain ⟨d0,h1,n,e,h2⟩:=e;cases oX h1;cases h2;obtain ⟨v,rfl,h⟩:=qz r;cases d0 with
 | lst xs=>cases e;obtain ⟨hl,a1,ws,n1,s1,rfl,e1,r1⟩:=io h;have l1:=r1.length;refine fO ⟨_,hw.sub _ _ e1,rfl,_,rfl⟩ (by simp only [a7];omega) ?_;simp only [a7,l1];exact nw hw
 | str xs=>cases e;obtain ⟨hl,t,rfl⟩:=h;refine P.len_str (by simp only [du,a7];omega) ?_;simp only [du,a7];exact nw hw
 | loc i=>
  obtain ⟨a,rfl,ha⟩:=h;replace e:=qO e;obtain ⟨o,hg,rows,h1,e⟩:=e;cases e;cases rX h1;have hi:i<W.QK.length:=by rw [hw.Rm];exact (ak.mp hg).1
  obtain ⟨hl,ws,rs,⟨o,n,e1,e2,e3,e4⟩,h2,h3,h4,_⟩:=hw.obj i _ a _ hg ha (au hi);have Ru:ws.size=rows.length:=by rw [<-h4,<-aG (f:=ef) (as:=rs),<-h2,bA]
  refine fO (items:=ws) ⟨o,e1,e2,n,e4⟩ (by omega) ?_;rw [Ru];exact nw hw
 | _=>cases e
theorem Ao:∀ {ds:List D} {vs:List ag} {d:D} {g:G} (e:Bb ds W.H=some (d,g)) (r:Qt J W.F W.as ds vs) (hw:Qs J W s),Ex J A (call (.type "range") vs) X W s (li J d g):=by iterate 7 replace e:=qO e;obtain ⟨⟨d0,Z4⟩,h1,i,h2,e⟩:=e;cases qL h1;cases be h2;cases Z4 with | nil=>cases e;obtain ⟨v,rfl,t,rfl⟩:=qz r;exact PySem.call_range_1 ⟨_,Qp.Tv hw _,rfl,_,_,_,_,rfl,oT _ _ _⟩ | cons d1 UI=>replace e:=qO e;obtain ⟨_,h3,j,h4,e⟩:=e;cases oY h3;cases be h4;cases e;obtain ⟨v,u,rfl,⟨t,rfl⟩,t',rfl⟩:=uF r;exact PySem.call_range_2 ⟨_,Qp.Tv hw _,rfl,_,_,_,_,rfl,oT _ _ _⟩
theorem wv:∀ {ds:List D} {vs:List ag} {d:D} {g:G} (e:uD ds W.H=some (d,g)) (r:Qt J W.F W.as ds vs) (hw:Qs J W s),Ex J A (call (.builtin "isinstance") vs) X W s (li J d g):=by iterate 7 replace e:=qO e;obtain ⟨⟨d0,d1⟩,h1,_,h2,e⟩:=e;cases rB h1;cases Ad h2;obtain ⟨v,u,rfl,h,h'⟩:=uF r;cases h';cases d0 with | int i=>cases e;obtain ⟨t,rfl⟩:=h;exact IsiPair.int_int (pq hw) | lst xs=>cases e;obtain ⟨hl,a1,ws,n1,s1,rfl,e1,r1⟩:=io h;exact IsiPair.list_int (hw.sub _ _ e1) rfl (zn hw) | _=>cases e
theorem zw:∀ {ds:List D} {vs:List ag} {d:D} {g:G} (e:we ds W.H=some (d,g)) (r:Qt J W.F W.as ds vs) (hw:Qs J W s),Ex J A (call (.builtin "divmod") vs) X W s (li J d g):=by iterate 7
 replace e:=vK e;obtain ⟨⟨d0,d1⟩,h1,a,h2,b,h3,e⟩:=e;cases rB h1;cases be h2;cases be h3;split at e
 ·rename_i hs;cases e;obtain ⟨v,u,rfl,⟨t,rfl⟩,t',rfl⟩:=uF r;refine oB hs.1 ?_ (.inl (xB hs.2));exact Ds (vs:=[_,_]) hw ⟨_,_,rfl,⟨_,rfl⟩,_,_,rfl,⟨_,rfl⟩,rfl⟩ (by show 2<=lim;decide) rfl
 ·cases e
theorem HG:∀ {xs:List (Int×Tok)} (j:Nat),numAt xs.toArray j=(xs.map (·.1)).getD j 0:=by iterate 2 unfold numAt;simp [bl]
theorem yR:∀ (l:List Int) (n:Nat),preSum (fun j=>l.getD j 0) n=(l.take n).sum:=by iterate 2 induction n with | zero=>simp [preSum] | succ n ih=>have:preSum (fun j=>l.getD j 0) (n+1)=preSum (fun j=>l.getD j 0) n+l.getD n 0:=rfl;rw [this,ih,gk,List.sum_append];congr 1;rw [bl];cases l[n]?<;>simp
theorem DG:∀ {l:List Int} (h:∀ i∈l,i.natAbs<1099511627776),l.sum.natAbs<=l.length * 1099511627776:=by iterate 2
 induction l with
 | nil=>simp
 | cons i l ih=>have h1:=h i (by simp);have h2:=ih fun j hj=>h j (by simp [hj]);have h3:=Int.natAbs_add_le i l.sum;rw [kj,aI];omega
theorem Ev:∀ {ds:List D} {vs:List ag} {d:D} {g:G} (hA:A.handled=none) (e:uf ds W.H=some (d,g)) (r:Qt J W.F W.as ds vs) (hw:Qs J W s),Ex J A (call (.builtin "sum") vs) X W s (li J d g):=by iterate 8
 replace e:=vK e;obtain ⟨d0,h1,xs,h2,l,e,h⟩:=e;cases oX h1;cases pu h2
 ·split at h
  ·rename_i hs;cases h;obtain ⟨v,rfl,h⟩:=qz r;obtain ⟨hl,a1,ws,n1,s1,rfl,e1,r1⟩:=io h;obtain ⟨ps,rfl,rfl⟩:=yC (xM e r1);have l1:=r1.length;have hi:s.heap.IsList a1 (intItems ps.toArray):=⟨_,hw.sub _ _ e1,rfl,n1,by unfold intItems;simp⟩
   have QD:∀ i∈ps.map (·.1),i.natAbs<1099511627776:=fun i hi=>by simpa using aj.mp hs i hi
   have hn:numAt ps.toArray=fun j=>(ps.map (·.1)).getD j 0:=funext fun j=>HG j;refine sum_intList hA hi (fun j hj=>?_) fun h' tk t' hk=>?_
   ·rw [hn,yR];have XW:j<(ps.map (·.1)).length:=by simpa using hj
    have hg:(ps.map (·.1)).getD j 0=(ps.map (·.1))[j]:=by rw [bl,au XW];rfl
    have b1:=QD _ (b5 XW);have b2:=DG (l:=(ps.map (·.1)).take (j+1)) fun i hi=>QD i (cZ hi);have b3:((ps.map (·.1)).take (j+1)).length<=1048576:=by
     have:(ps.map (·.1)).length<=1048576:=by have:=hl;unfold lim at this;simp only [aG] at l1 ⊢;omega
     simp only [gK];omega
    unfold InLong;show (-2 ^ 63<=(ps.map (·.1)).getD j 0/\(ps.map (·.1)).getD j 0<2 ^ 63)/\_;rw [hg];have b4:((ps.map (·.1)).take (j+1)).length * 1099511627776<=1048576 * 1099511627776:=fg _ b3;generalize ((ps.map (·.1)).take (j+1)).sum=S at *;generalize (ps.map (·.1))[j]=T at *;omega
   ·rw [hn,yR];have:(ps.map (·.1)).take ps.toArray.size=ps.map (·.1):=gN (by simp);rw [this];have k:Qp J X W s W {s with heap:=h',toks:=tk}:=by
     exact (Qp.grow (X:=[]) (s':={s with heap:=h',toks:=tk}) hw (fun a o _ e=>hk a o e) (fun a o e=>⟨o,hk a o e⟩) (by simp) rfl rfl).weaken (by simp)
    exact ⟨W,k,rfl,_,rfl⟩
  ·cases h
theorem tS:∀ (n:Nat) (a:Int),(vH n a).length=n:=by iterate 0 intro n;induction n with | zero=>intro _;exact rfl | succ n Qo=>intro a;(dsimp only [vH];simp [Qo])
theorem Hh:∀ (n:Nat) (a:Int) (i:Nat),i<n->(vH n a)[i]? =some (.int (a+i)):=by iterate 0
 intro n;induction n with
 | zero=>exact fun _ _ h=>absurd h (mV _)
 | succ n Qo=>intro a i h;cases i with | zero=>dsimp only [vH];simp | succ i=>dsimp only [vH];simp only [cL];rw [Qo (a+1) i (by omega)];congr 2;omega
theorem wO:∀ {a b:Int} (h:y7 a b=true),nP a b 1=true/\(b-a).toNat<=lim/\nQ a b 1=((b-a).toNat:Int):=by iterate 3 have h:=of_decide_eq_true h;refine ⟨small_one (by omega) (by omega) (by omega) (by omega),h.2.2.2.2,?_⟩;rw [rangeSize_one];split<;>omega
theorem Cs:∀ {ds:List D} {vs:List ag} {d:D} {g:G} (hA:A.handled=none) (e:Dp ds W.H=some (d,g)) (r:Qt J W.F W.as ds vs) (hw:Qs J W s),Ex J A (call (.type "list") vs) X W s (li J d g):=by iterate 8
 replace e:=qO e;obtain ⟨d0,h1,⟨a,b⟩,h2,e⟩:=e;cases oX h1;cases Co h2
 ·split at e
  ·rename_i hs;cases e;obtain ⟨v,rfl,q,t,u,w',rfl,hq⟩:=qz r;obtain ⟨hb,hs,Ru⟩:=wO hs;refine call_list_range (n:=(b-a).toNat) hA (hw.sub _ _ hq) hb Ru ?_ fun h' tk QU c' hk hn hit=>?_
   ·have:=hs;unfold lim at this;omega
   ·have k:Qp J X W s W {s with heap:=h',toks:=tk}:=(Qp.grow (X:=[]) (s':={s with heap:=h',toks:=tk}) hw (fun a o _ e=>hk a o e) (fun a o e=>⟨o,hk a o e⟩) (by simp) rfl rfl).weaken (by simp);have nn:=hw.QQ (bv _);have k2:=Qp.Q8 k hn (bv _) nn.2.1 nn.2.2;refine ⟨_,k2,rfl,?_⟩;refine ⟨by rw [tS];exact hs,_,QU.toList,rfl,?_,?_⟩
    ·exact Rf.of (n:=c') (by rw [ig];exact oT _ _ _)
    ·refine Qt.of_get (by rw [tS,bA];exact hit.1) fun i d v hi hv=>?_;have hl:i<(b-a).toNat:=by
      have:=(ak.mp hi).1;rwa [tS] at this
     rw [Hh _ _ _ hl] at hi;cases hi;rw [eP] at hv;obtain ⟨t',h2⟩:=hit.2 i v hv;subst h2;exact ⟨t',by congr 1;omega⟩
  ·cases e
theorem AW:∀ {sep:List Nat} {ds:List D} {F:PM} {as:List Addr},∀ {r:List Nat} {vs:List ag},xr sep ds=some r->Qt J F as ds vs->
  ∃ ys:List Str,StrsAre vs ys/\Str.join ⟨sep.toArray⟩ ys=⟨r.toArray⟩:=by iterate 4
 induction ds with
 | nil=>intro r vs e h;cases e;cases sV h;exact ⟨[],.nil,rfl⟩
 | cons d ds ih=>
  intro r vs e h;obtain ⟨v,q,rfl,h,hq⟩:=h;replace e:=bi e;obtain ⟨x,h1,e⟩:=e;cases oO h1;obtain ⟨_,t,rfl⟩:=h;cases ds with
  | nil=>cases e;cases sV hq;exact ⟨[_],.cons _ _ .nil,rfl⟩
  | cons d' Rh=>replace e:=bi e;obtain ⟨y,e,h2⟩:=e;cases h2;obtain ⟨ys,h1,h2⟩:=ih e hq;refine ⟨⟨x.toArray⟩::ys,.cons _ _ h1,?_⟩;cases ys with | nil=>cases h1;have:=hq.length;simp at this | cons y' WB=>show Str.mk x.toArray++Str.mk sep.toArray++Str.join _ (y'::WB)=_;rw [h2];show Str.mk (x.toArray++sep.toArray++y.toArray)=_;simp
theorem El:∀ {sep r:List Nat} {ds:List D} {d:D} {va:ag} {vs:List ag} (e:xr sep ds=some r) (e':E4 r=some d) (ha:Rd J W.F W.as (.str sep) va) (h:Qt J W.F W.as [.lst ds] vs) (hw:Qs J W s),Ex J A (call (.builtin "str.join") (va::vs)) X W s (li J d W.H):=by iterate 11
 obtain ⟨v,rfl,hv⟩:=qz h;obtain ⟨hl,a1,ws,n1,s1,rfl,e1,r1⟩:=io hv;dsimp only [Rd] at ha;obtain ⟨hs,t,rfl⟩:=ha;obtain ⟨hr,rfl⟩:=vJ e';obtain ⟨ys,h1,h2⟩:=AW e r1;have h3:Builtin.Str.glued ⟨sep.toArray⟩ ys=⟨r.toArray⟩:=by rw [StrLaws.glued_eq_join];exact h2
 refine join_list (items:=ws.toArray) (ys:=ys) ⟨_,hw.sub _ _ e1,rfl,n1,rfl⟩ (by simpa using h1) ?_ fun t' k=>?_
 ·have h4:=size_glued ⟨sep.toArray⟩ ys;rw [h3] at h4;simp only [du,a7] at h4 ⊢;unfold lim at hr hs;cases ys with | nil=>simp | cons y ys=>simp only [aI,Nat.add_sub_cancel,gH,lL] at h4 ⊢;have e5:(nr (fun x:Str=>x.cps.size) (y::ys)).sum=(nr du (y::ys)).sum:=rfl;rw [e5];omega
 ·show _;have:Txt.join ⟨sep.toArray⟩ ys=⟨r.toArray⟩:=h3;rw [this];exact ug hw hr
theorem Cv:∀ {x:List Nat} {d:D} {va:ag} (e:By x=some d) (ha:Rd J W.F W.as (.str x) va) (hw:Qs J W s),Ex J A (call (.builtin "str.split") [va]) X W s (li J d W.H):=by iterate 6
 dsimp only [Rd] at ha;obtain ⟨hs,t,rfl⟩:=ha;unfold By at e;split at e
 ·cases e
 ·rename_i Rt;split at e
  ·rename_i QD;obtain ⟨hl,rfl⟩:=tG e;have hlen:(fK ⟨x.toArray⟩ (x.length+1)).length<=lim:=by
    have:(wordsOf ⟨x.toArray⟩).length=(fK ⟨x.toArray⟩ (x.length+1)).length:=by unfold wordsOf;simp [du]
    rw [<-this];simpa using hl
   have hx:(⟨x.toArray⟩:Str).length=x.length:=by simp [du]
   refine iC jV rfl PySem.F.entry_str_split (PySem.F.args_str_split_1 _) (meets_str_split_space ⟨x.toArray⟩ t (by rw [hx];exact bw hs pt) (by rw [hx];exact bw hlen pt)) ?_;rw [hx,if_neg Rt];refine sH (vs:=strsFrom s.toks (wordsOf ⟨x.toArray⟩)) hw ?_ hl rfl;clear hl e hlen Rt;generalize s.toks=tk;generalize wordsOf ⟨x.toArray⟩=l at QD ⊢;induction l generalizing tk with | nil=>rw [iU];dsimp only [Qt];rfl | cons y l ih=>simp only [ez,ai,decide_eq_true_eq] at QD;rw [aB];dsimp only [Qt,Rd];refine ⟨_,_,rfl,⟨by simpa [du] using QD.1,tk,?_⟩,ih (tk+1) QD.2⟩;simp
  ·cases e
theorem BS:∀ (c:Nat),∀ x:List Nat,cnt c x=sT c x:=by iterate 1
 intro x;induction x with
 | nil=>exact rfl
 | cons n r Qo=>
  rw [cnt_cons,Qo];unfold sT;rw [jb];by_cases h:n=c
  ·simp [h];omega
  ·simp [h]
theorem Cf:∀ {x:List Nat} {c:Nat} {va:ag} {vs:List ag} (ha:Rd J W.F W.as (.str x) va) (h:Qt J W.F W.as [.str [c]] vs) (hw:Qs J W s),Ex J A (call (.builtin "str.count") (va::vs)) X W s (li J (.int (sT c x)) W.H):=by iterate 7
 obtain ⟨v,rfl,hv⟩:=qz h;dsimp only [Rd] at ha hv;obtain ⟨hs,t,rfl⟩:=ha;obtain ⟨_,u,rfl⟩:=hv;refine SC.count ?_;have:Txt.count ⟨x.toArray⟩ ⟨[c].toArray⟩=sT c x:=by rw [<-BS];exact count_is ⟨x.toArray⟩ c
 rw [this];exact nw hw
theorem Ai:∀ {xs:List D} {l:List Int} {i:Int} {va:ag} {vs:List ag} (e:tg xs=some l) (ha:Rd J W.F W.as (.lst xs) va) (h:Qt J W.F W.as [.int i] vs) (hw:Qs J W s),Ex J A (call (.builtin "list.count") (va::vs)) X W s (li J (.int ((l.filter (· ==i)).length)) W.H):=by iterate 9 obtain ⟨v,rfl,hv⟩:=qz h;obtain ⟨hl,a1,ws,n1,s1,rfl,e1,r1⟩:=io ha;dsimp only [Rd] at hv;obtain ⟨t,rfl⟩:=hv;refine count_list_ints (ns:=l) ⟨_,hw.sub _ _ e1,rfl,n1,rfl⟩ (xM e r1) ?_;rw [<-List.countP_eq_length_filter];exact nw hw
theorem Hn:∀ {QC:List (Int×Int)} {k d:Int} {va:ag} {vs:List ag} (ha:Rd J W.F W.as (.QH QC) va) (h:Qt J W.F W.as [.int k,.int d] vs) (hw:Qs J W s),Ex J A (call (.builtin "dict.get") (va::vs)) X W s (li J (.int ((QC.lookup k).getD d)) W.H):=by iterate 8
 obtain ⟨v,u,rfl,hv,h'⟩:=uF h;dsimp only [Rd] at ha hv h';obtain ⟨t,rfl⟩:=hv;obtain ⟨t',rfl⟩:=h';obtain ⟨hl,a,rfl,hn,p⟩:=ha;obtain ⟨ws,hm,q⟩:=TP.dictOf p hw.sub;have q:=rR q k;refine call_meetsIn eI (fu hm.mapOf) jW (jK _ _ _) (lR (IK J) (k:=k) a ?_ hn _) ?_
 ·exact decide_eq_true rfl
 ·refine ⟨_,hm.mapOf,?_⟩;cases e:QC.lookup k with | none=>rw [q.2 e];exact nw hw | some i=>obtain ⟨t2,e2⟩:=q.1 i e;rw [e2];exact nw hw
theorem DE:∀ {i:Int} {va:ag} (ha:Rd J W.F W.as (.int i) va) (hw:Qs J W s),Ex J A (call (.builtin "int.bit_length") [va]) X W s (li J (.int (dL i.natAbs)) W.H):=by iterate 4
 dsimp only [Rd] at ha;obtain ⟨t,rfl⟩:=ha;refine call_int_bit_length ?_;have:gL i=dL i.natAbs:=by
  unfold gL dL;by_cases h:i=0
  ·subst h;rfl
  ·have h2:i.natAbs≠0:=by omega
   simp [h]
 rw [this];exact nw hw
end
noncomputable def RG (h:Heap) (env:Env) (x:Str) (v:ag):Prop:=
 (env.kindOf x=some .local/\∃ m,h.Ns env.locals m/\m x=some v)\/
 ((env.kindOf x=some .cell\/env.kindOf x=some .free)/\∃ c,env.cells.lookup x=some c/\h.IsCell c (some v))
noncomputable def am (env:Env):List Addr:=env.locals::env.cells.map (·.2)
noncomputable def Ro (env:Env) (a:Addr):Prop:=a∈am env/\a≠env.locals/\∀ x,env.cells.lookup x=some a->env.kindOf x=some .free
noncomputable def QS (J:Cx) (W:Wd) (h:Heap):OW->Addr->Prop
| .lst xs,a=>xs.length<=lim/\∃ vs,bS h a vs/\Qt J W.F W.as xs vs.toList
| .QH QC,a=>QC.length<=lim/\(a==iB)=false/\∃ ws,h.DictOf (IK J) a ws/\Sb ws QC
structure Qq (J:Cx) (W:Wd) (h:Heap) (sc:aX) (st:St) (env:Env) (ow:List Addr):Prop where
 kind:env.scope.kind= .function
 glob:env.globals=bC
 bi:env.builtins=bU
 kd:∀ x k,sc.names.lookup x=some k->env.kindOf x=some k\/(k= .free/\env.kindOf x=some .cell)
 ns:∃ m,h.Ns env.locals m
 vars:∀ x d,varD sc st x=some d->∃ v,RG h env x v/\Rd J W.F W.as d v
 cells:∀ x,yA sc x=true->∃ c v,env.cells.lookup x=some c/\h.IsCell c v
 inj:∀ x y c,env.cells.lookup x=some c->env.cells.lookup y=some c->x=y
 Rx:∀ x c,env.cells.lookup x=some c->c≠env.locals
 apart:∀ a∈am env++ow,(W.F a=none\/Ro env a)/\a∉J.T/\a∉W.QK.flatten/\∃ o,h.get? a=some o
 own:∀ x o,st.own=some (x,o)->pP sc x=true/\∃ a,ow=[a]/\a∉am env/\RG h env x (.ref a)/\QS J W h o a
 Rj:∀ x o,st.own=some (x,o)->varD sc st x=none
theorem al:∀ {α β:Type} {x:α} {b:β} [BEq α] [LawfulBEq α],∀ {l:List (α×β)},l.lookup x=some b->(x,b)∈l:=by iterate 6
 intro l;induction l with
 | nil=>intro h;simp at h
 | cons RA r Qo=>obtain ⟨y,c⟩:=RA;intro h;rw [aY] at h;cases e:x==y with | true=>rw [e] at h;simp at h;subst h;rw [eq_of_beq e];simp | false=>rw [e] at h;simp at h;exact av _ (Qo h)
section
variable {J:Cx} {A:bf} {W:Wd} {s:ah} {X:List Addr} {sc:aX} {st:St} {env:Env} {ow:List Addr} {h:Heap}
theorem RG.keep:∀ {h':Heap} {x:Str} {v:ag} (ahg:RG h env x v) (k:∀ a∈am env,∀ o,h.get? a=some o->h'.get? a=some o),RG h' env x v:=by iterate 5
 rcases ahg with ⟨e,m,n,r⟩ | ⟨e,c,n,r⟩
 ·exact .inl ⟨e,m,Ns.keep n (k _ (by simp [am])),r⟩
 ·obtain ⟨o,e1,e2⟩:=r;exact .inr ⟨e,c,n,o,k _ (av _ (aH.mpr ⟨(x,c),al n,rfl⟩)) _ e1,e2⟩
theorem QS.keep:∀ {W':Wd} {h':Heap} {o:OW} {a:Addr} (ahg:QS J W h o a) (hF:PM.le W.F W'.F) (hA:Pre W.as W'.as) (k:∀ o,h.get? a=some o->h'.get? a=some o),QS J W' h' o a:=by iterate 8 cases o with | lst xs=>obtain ⟨l,vs,p,r⟩:=ahg;exact ⟨l,vs,bS.keep p k,r.mono hF hA⟩ | QH QC=>obtain ⟨l,n,ws,⟨o,es,ep,e,r⟩,q⟩:=ahg;exact ⟨l,n,ws,⟨o,es,ep,k _ e,r⟩,q⟩
theorem Qq.U7:∀ {W':Wd} {s':ah} (ahg:Qq J W s.heap sc st env ow) (k:∀ a∈am env++ow,∀ o,s.heap.get? a=some o->s'.heap.get? a=some o) (hF:PM.le W.F W'.F) (hA:Pre W.as W'.as) (hf:∀ a o,W'.F a=some o->W.F a=some o\/s.heap.get? a=none) (hp:∀ a∈W'.QK.flatten,a∈W.QK.flatten\/s.heap.get? a=none),Qq J W' s'.heap sc st env ow:=by iterate 8
 exact {
  kind:=ahg.kind
  glob:=ahg.glob
  bi:=ahg.bi
  kd:=ahg.kd
  ns:=by obtain ⟨m,e⟩:=ahg.ns;exact ⟨m,Ns.keep e (k _ (by simp [am]))⟩
  vars:=fun x d e=>(by obtain ⟨v,h1,h2⟩:=ahg.vars x d e;exact ⟨v,h1.keep fun a ha=>k a (aE _ ha),h2.mono hF hA⟩)
  cells:=fun x e=>by obtain ⟨c,v,h1,o,h2,h3⟩:=ahg.cells x e;exact ⟨c,v,h1,o,k _ (aE _ (av _ (aH.mpr ⟨(x,c),al h1,rfl⟩))) _ h2,h3⟩
  inj:=ahg.inj
  Rx:=ahg.Rx
  apart:=fun a ha=>by
   obtain ⟨h1,h2,h3,o,h4⟩:=ahg.apart a ha;refine ⟨h1.imp (fun h1=>?_) id,h2,fun hm=>?_,o,k a ha o h4⟩
   ·cases e:W'.F a with
    | none=>rfl
    | some o'=>
     rcases hf a o' e with q | q
     ·rw [h1] at q;cases q
     ·rw [h4] at q;cases q
   ·rcases hp a hm with q | q
    ·exact h3 q
    ·rw [h4] at q;cases q
  own:=fun x o e=>by obtain ⟨l,a,h1,h2,h3,h4⟩:=ahg.own x o e;exact ⟨l,a,h1,h2,h3.keep fun b hb=>k b (aE _ hb),h4.keep hF hA (k a (by rw [h1];simp))⟩
  Rj:=ahg.Rj}
theorem Qq.WA:∀ (ahg:Qq J W h sc st env ow),W.F env.locals=none:=by iterate 1
 rcases (ahg.apart env.locals (by simp [am])).1 with h | h
 ·exact h
 ·exact absurd rfl h.2.1
theorem Qq.VC:∀ {x:Str} {c:Addr} (ahg:Qq J W h sc st env ow) (e:env.cells.lookup x=some c) (hk:env.kindOf x=some .cell),W.F c=none:=by iterate 5
 rcases (ahg.apart c (aE _ (av _ (aH.mpr ⟨(x,c),al e,rfl⟩)))).1 with h | h
 ·exact h
 ·rw [h.2.2 x e] at hk;cases hk
theorem Qq.Wz:∀ {a:Addr} (ahg:Qq J W h sc st env ow) (ha:a∈ow) (hn:a∉am env),W.F a=none:=by iterate 4
 rcases (ahg.apart a (cU _ ha)).1 with h | h
 ·exact h
 ·exact absurd h.1 hn
theorem Qq.keep:∀ {W':Wd} {s':ah} (ahg:Qq J W s.heap sc st env ow) (t:Qp J X W s W' s') (hX:∀ a∈am env++ow,a∉X),Qq J W' s'.heap sc st env ow:=by iterate 5 exact (ahg.U7 (fun a ha o e=>let z:=ahg.apart a ha;t.keep a o z.2.1 z.2.2.1 (hX a ha) e) t.le t.as t.fresh t.QK)
theorem Qq.QG:∀ {W':Wd} {s':ah} (ahg:Qq J W s.heap sc st env ow) (t:Qp J [] W s W' s'),Qq J W' s'.heap sc st env ow:=by iterate 4 exact (ahg.keep t (by simp))
theorem Qs.sameBut:∀ {a:Addr} {h':Heap} {tk:Nat} (hw:Qs J W s) (sb:bW a s.heap h') (ha:W.F a=none/\a∉J.T/\a∉W.QK.flatten) (hn:∃ o,h'.get? a=some o),Qp J [a] W s W {s with heap:=h',toks:=tk}:=by iterate 7
 exact (Qp.grow (s':={s with heap:=h',toks:=tk}) hw (fun b o hb e=>by show h'.get? b=some o;rw [sb.2 b (by simpa using hb)];exact e)
  (fun b o e=>by
   by_cases q:b=a
   ·subst q;exact hn
   ·exact ⟨o,(sb.2 b q).trans e⟩) (by simpa using ha) rfl rfl)
theorem Qs.extBut:∀ {a:Addr} {h':Heap} {tk:Nat} (hw:Qs J W s) (sb:fw a s.heap h') (ha:W.F a=none/\a∉J.T/\a∉W.QK.flatten) (hn:s.heap.get? a=none\/∃ o,h'.get? a=some o),Qp J [a] W s W {s with heap:=h',toks:=tk}:=by iterate 7
 exact (Qp.grow (s':={s with heap:=h',toks:=tk}) hw (fun b o hb e=>sb b o (by simpa using hb) e)
  (fun b o e=>by
   by_cases q:b=a
   ·subst q;rcases hn with hn | hn
    ·rw [hn] at e;cases e
    ·exact hn
   ·exact ⟨o,sb b o q e⟩) (by simpa using ha) rfl rfl)
theorem Qs.SP:∀ {h':Heap} {tk:Nat} (hw:Qs J W s) (sb:fw s.heap.objs.size s.heap h'),Qp J [] W s W {s with heap:=h',toks:=tk}:=by iterate 4 exact ((hw.extBut sb (hw.QQ (bv _)) (.inl (bv _))).weaken (by intro a ha;simp at ha;subst ha;exact .inr (bv _)))
theorem Ns.det:∀ {a:Addr} {m m':Str->Option ag} (p:h.Ns a m) (q:h.Ns a m'),m=m':=by iterate 5 obtain ⟨o,es,ep,e1,e2,_,e3⟩:=p;obtain ⟨o',es',ep',f1,f2,_,f3⟩:=q;rw [e1] at f1;cases f1;rw [e2] at f2;cases f2;funext x;rw [<-e3,<-f3]
theorem qq:∀ {x y:Str} {d:D} {ρ:Qr} (h:y≠x),cG y ((x,d)::ρ)=ρ.lookup y:=by iterate 5
 rw [aY];have:(y==x)=false:=by simpa using h
 rw [this]
theorem qr:∀ {x:Str} {d:D} {ρ:Qr},cG x ((x,d)::ρ)=some d:=by iterate 3 rw [aY];simp
theorem yY:∀ {x:Str} {d:D} (y:Str) (hy:y≠x),varD sc (st.withRho ((x,d)::st.ρ)) y=varD sc st y:=by iterate 4 unfold varD St.withRho;cases e:sc.names.lookup y with | none=>rfl | some k=>cases k<;>simp only [qq hy]
noncomputable def Q3 (sc:aX) (env:Env) (Y:List Addr) (x:Str):Prop:=(sc.names.lookup x=some .local->env.locals∈Y)/\(sc.names.lookup x=some .cell->∀ c,env.cells.lookup x=some c->c∈Y)
theorem Q3.frame:∀ {x:Str},Q3 sc env (am env) x:=by iterate 1 exact (⟨fun _=>by simp [am],fun _ c h=>av _ (aH.mpr ⟨(x,c),al h,rfl⟩)⟩)
theorem yc:∀ {sc:aX} {x:Str} (h:pP sc x=true),sc.names.lookup x=some .local\/sc.names.lookup x=some .cell:=by iterate 3
 unfold pP at h;cases q:sc.names.lookup x with
 | none=>rw [q] at h;cases h
 | some k=>rw [q] at h;cases k<;>first | exact .inl rfl | exact .inr rfl | cases h
theorem CA:∀ {sc:aX} {x:Str} (h:yA sc x=true),sc.names.lookup x=some .free\/sc.names.lookup x=some .cell:=by iterate 3
 unfold yA at h;cases q:sc.names.lookup x with
 | none=>rw [q] at h;cases h
 | some k=>rw [q] at h;cases k<;>first | exact .inl rfl | exact .inr rfl | cases h
theorem zK:∀ {sc:aX} {st:St} {x:Str} {d:D} (h:varD sc st x=some d),(sc.names.lookup x=some .free/\st.up.lookup x=some d)\/(sc.names.lookup x=some .local/\st.ρ.lookup x=some d)\/(sc.names.lookup x=some .cell/\st.ρ.lookup x=some d):=by iterate 5
 unfold varD at h;cases q:sc.names.lookup x with
 | none=>rw [q] at h;cases h
 | some k=>rw [q] at h;cases k<;>first | exact .inl ⟨rfl,h⟩ | exact .inr (.inl ⟨rfl,h⟩) | exact .inr (.inr ⟨rfl,h⟩) | cases h
theorem yV:∀ {x:Str} {v:ag} {Y:List Addr} (ahg:Qq J W s.heap sc st env ow) (hw:Qs J W s) (hx:pP sc x=true) (hY:Q3 sc env Y x),aD (aC P0 J.w) A (gV env x v) (fun _ s'=>Qp J Y W s W s'/\(∃ m,s'.heap.Ns env.locals m)/\RG s'.heap env x v/\(∀ y u,y≠x->RG s.heap env y u->RG s'.heap env y u)/\
   (∀ y,yA sc y=true->∃ c v,env.cells.lookup y=some c/\s'.heap.IsCell c v)/\(∀ a,a∉am env->∀ o,s.heap.get? a=some o->s'.heap.get? a=some o)/\∀ a∈am env,∃ o,s'.heap.get? a=some o) (fun _ _=>False) s:=by iterate 7
 have hk:(env.kindOf x=some .local/\env.locals∈Y)\/(env.kindOf x=some .cell/\yA sc x=true/\∀ c,env.cells.lookup x=some c->c∈Y):=by
  rcases yc hx with e | e
  ·rcases ahg.kd _ _ e with h | ⟨h,_⟩
   ·exact .inl ⟨h,hY.1 e⟩
   ·cases h
  ·rcases ahg.kd _ _ e with h | ⟨h,_⟩
   ·exact .inr ⟨h,by unfold yA;rw [e],hY.2 e⟩
   ·cases h
 have fin:∀ (a:Addr) (h':Heap) (tk:Nat),a∈am env->W.F a=none->a∈Y->bW a s.heap h'->(∃ o,h'.get? a=some o)->(∃ m,h'.Ns env.locals m)->RG h' env x v->(∀ y u,y≠x->RG s.heap env y u->RG h' env y u)->
   (∀ y,yA sc y=true->∃ c v,env.cells.lookup y=some c/\h'.IsCell c v)->
   Qp J Y W s W {s with heap:=h',toks:=tk}/\(∃ m,h'.Ns env.locals m)/\RG h' env x v/\(∀ y u,y≠x->RG s.heap env y u->RG h' env y u)/\
   (∀ y,yA sc y=true->∃ c v,env.cells.lookup y=some c/\h'.IsCell c v)/\(∀ a,a∉am env->∀ o,s.heap.get? a=some o->h'.get? a=some o)/\∀ a∈am env,∃ o,h'.get? a=some o:=by
  intro a h' tk ha hFa hay sb he h1 h2 h3 h4;have z:=ahg.apart a (aE _ ha);refine ⟨(hw.sameBut sb ⟨hFa,z.2.1,z.2.2.1⟩ he).weaken (by intro b hb;simp at hb;subst hb;exact .inl hay),h1,h2,h3,h4,fun b hb o e=>?_,fun b hb=>?_⟩
  ·rw [sb.2 b (fun q=>hb (q▸ha))];exact e
  ·by_cases q:b=a
   ·subst q;exact he
   ·obtain ⟨_,_,_,o,e⟩:=ahg.apart b (aE _ hb);exact ⟨o,(sb.2 b q).trans e⟩
 rcases hk with ⟨hk,hY⟩ | ⟨hk,Vs,hY⟩
 ·obtain ⟨m,hn⟩:=ahg.ns;refine fh hk hn (fun h' VG sb=>?_) (by rw [ahg.kind];rfl);have ne:∀ y c,env.cells.lookup y=some c->c≠env.locals:=ahg.Rx;refine fin env.locals h' _ (by simp [am]) ahg.WA hY sb (by obtain ⟨o,_,_,e,_⟩:=VG;exact ⟨o,e⟩) ⟨_,VG⟩ (.inl ⟨hk,_,VG,by simp⟩) (fun y u hy hv=>?_) fun y hy=>?_
  ·rcases hv with ⟨e,m2,n2,r⟩ | ⟨e,c,n2,r⟩
   ·refine .inl ⟨e,_,VG,?_⟩;rw [Ns.det hn n2];simp [hy,r]
   ·exact .inr ⟨e,c,n2,r.sameBut sb (ne _ _ n2)⟩
  ·obtain ⟨c,v,h1,h2⟩:=ahg.cells y hy;exact ⟨c,v,h1,h2.sameBut sb (ne _ _ h1)⟩
 ·obtain ⟨m,hn⟩:=ahg.ns;obtain ⟨c,v0,h1,h2⟩:=ahg.cells x Vs;refine wpAny_storeName_cell ahg.kind hk h1 h2 (fun h' hc sb=>?_);have hcm:c∈am env:=av _ (aH.mpr ⟨(x,c),al h1,rfl⟩);have ne:=ahg.Rx _ _ h1;have VG:h'.Ns env.locals m:=hn.sameBut sb (dz ne);refine fin c h' _ hcm (ahg.VC h1 hk) (hY c h1) sb (by obtain ⟨o,e,_⟩:=hc;exact ⟨o,e⟩) ⟨_,VG⟩ (.inr ⟨.inl hk,c,h1,hc⟩) (fun y u hy hv=>?_) fun y hy=>?_
  ·rcases hv with ⟨e,m2,n2,r⟩ | ⟨e,c2,n2,r⟩
   ·exact .inl ⟨e,_,n2.sameBut sb (dz ne),r⟩
   ·exact .inr ⟨e,c2,n2,r.sameBut sb (fun q=>hy (ahg.inj _ _ _ n2 (q▸h1)))⟩
  ·by_cases q:y=x
   ·subst q;exact ⟨c,_,h1,hc⟩
   ·obtain ⟨c2,v2,e1,e2⟩:=ahg.cells y hy;exact ⟨c2,v2,e1,e2.sameBut sb (fun z=>q (ahg.inj _ _ _ e1 (z▸h1)))⟩
theorem yO:∀ {x y:Str} {o:OW} (h:oS st x=true) (e:st.own=some (y,o)),y≠x:=by iterate 5 unfold oS at h;rw [e] at h;simpa using h
theorem u1:∀ {x:Str} {v:ag} {d:D} {Y:List Addr} (ahg:Qq J W s.heap sc st env ow) (hw:Qs J W s) (hx:pP sc x=true) (hd:Rd J W.F W.as d v) (TH:oS st x=true) (hY:Q3 sc env Y x),aD (aC P0 J.w) A (gV env x v) (fun _ s'=>Qp J Y W s W s'/\Qq J W s'.heap sc (st.withRho ((x,d)::st.ρ)) env ow) (fun _ _=>False) s:=by iterate 10
 refine af (yV (v:=v) ahg hw hx hY) (fun _ s' y0=>?_) fun _ _ e=>e;obtain ⟨k,h1,h2,h3,h4,h5,h6⟩:=y0;refine ⟨k,?_⟩;have ap:∀ a∈am env++ow,(W.F a=none\/Ro env a)/\a∉J.T/\a∉W.QK.flatten/\∃ o,s'.heap.get? a=some o:=fun a ha=>by
  obtain ⟨z1,z2,z3,o,z4⟩:=ahg.apart a ha;refine ⟨z1,z2,z3,?_⟩;by_cases q:a∈am env
  ·exact h6 a q
  ·exact ⟨o,h5 a q o z4⟩
 exact {
  kind:=ahg.kind
  glob:=ahg.glob
  bi:=ahg.bi
  kd:=ahg.kd
  ns:=h1
  vars:=fun y e he=>by
   by_cases q:y=x
   ·subst q;have:e=d:=by
     unfold varD St.withRho at he;rcases yc hx with w | w
     ·rw [w] at he;simp only [qr] at he;exact (bh he).symm
     ·rw [w] at he;simp only [qr] at he;exact (bh he).symm
    subst this;exact ⟨v,h2,hd⟩
   ·rw [yY y q] at he;obtain ⟨u,e1,e2⟩:=ahg.vars y e he;exact ⟨u,h3 y u q e1,e2⟩
  cells:=h4
  inj:=ahg.inj
  Rx:=ahg.Rx
  apart:=ap
  own:=fun y o e=>by have ny:=yO TH e;obtain ⟨l,a,e1,e2,e3,e4⟩:=ahg.own y o e;exact ⟨l,a,e1,e2,h3 y _ ny e3,e4.keep (PM.le.refl _) (Pre.refl _) (h5 a e2)⟩
  Rj:=fun y o e=>by have ny:=yO TH e;rw [yY y ny];exact ahg.Rj y o e}
end
noncomputable def F0 (J:Cx):PM:=fun a=>if a∈J.T then none else J.Q5.get? a
noncomputable def QA (F:PM) (code:ag) (q:Str):Prop:=∃ c o vs t,code= .ref c/\F c=some o/\o.data= .fields vs/\vs[1]? =some (.str q t)
noncomputable def wu (fn:Fn):Bool:=fn.scope.kind== .function&&!fn.scope.isCoroutine&&!fn.scope.isGenerator&&fn.params.all (pP fn.scope)&&db fn.params&&
 db (fn.scope.names.map (·.1))&&fn.scope.names.all fun p=>!(p.2== .free)
structure FnAt (J:Cx) (F:PM) (a:Addr) (fn:Fn):Prop where
 obj:∃ o fd,F a=some o/\o.data= .func fd/\fd.body= .stmts fn.body/\fd.scope=fn.scope/\fd.globals=bC/\fd.closure=[]/\fd.builtins=bU/\QA F fd.code fd.qualname/\
  ∀ vs:List ag,vs.length=fn.params.length->iD fd ⟨vs,[]⟩=pure (fn.params.zip vs)
 good:wu fn=true
noncomputable def rz:List Str:=["range","list","enumerate"]
noncomputable def QR:List Str:=["len","sum","isinstance","divmod","iter"]
structure Fx (J:Cx):Prop where
 Uy:∀ h:Heap,(∀ a o,F0 J a=some o->h.get? a=some o)->xE J h
 WG:∃ o,F0 J iB=some o
 SI:∃ mc,Uj (F0 J) cStatics mc/\mc (bB "sys.recursionlimit")=none
 glob:∃ mg mb,Uj (F0 J) bC mg/\Uj (F0 J) bU mb/\
  (∀ x i,tI P0 x=some i->∃ t,mg x=some (.int i t))/\mg "EXACT_TOKEN_TYPES" =some (.ref J.UX)/\mg "int" =none/\mb "int" =some (.type "int")/\
  (∀ x∈QR,mg x=none/\mb x=some (.builtin x.toString))/\(∀ x∈rz,mg x=none/\mb x=some (.type x.toString))/\mg "reversed" =none/\mb "reversed" =some (.type "reversed")/\
  mg "_netrclex" =some (.ref J.cls)/\∀ f fn,pd P0 f=some fn->∃ a,mg f=some (.ref a)/\(fn.scope.isGenerator=false->FnAt J (F0 J) a fn)
section
variable {J:Cx} {A:bf} {W:Wd} {s:ah} {X:List Addr} {sc:aX} {st:St} {env:Env} {ow:List Addr} {h:Heap}
theorem Uj.ns {F:PM} {a:Addr} {m} (ahg:Uj F a m) (k:∀ b o,F b=some o->h.get? b=some o):h.Ns a m:=by obtain ⟨o,es,ep,e,r⟩:=ahg;exact ⟨o,es,ep,k _ _ e,r⟩
theorem Qs.le0:∀ (hw:Qs J W s),PM.le (F0 J) W.F:=by iterate 1
 exact (fun a o e=>by
 unfold F0 at e;split at e
 ·cases e
 ·rename_i hn;exact hw.base a o hn e)
theorem Qs.QB:∀ (hw:Qs J W s),∀ a o,F0 J a=some o->s.heap.get? a=some o:=by iterate 1 exact (fun a o e=>hw.sub a o (hw.le0 a o e))
theorem tz:∀ {names:List (Str×eN)} (h:names.all (fun p=>!(p.2== .free))=true) (x:Str),names.lookup x≠some .free:=by iterate 3
 exact (fun e=>by
 have:=aj.mp h _ (al e);simp at this)
theorem sw:∀ {x:Str},∀ (names:List (Str×eN)) (n:Nat) (acc:List (Str×Addr)),((x,fV)∈names\/(acc.lookup x).isSome=true)->((iw n names acc).lookup x).isSome=true:=by iterate 1
 intro names;induction names with
 | nil=>
  intro _ acc h;rcases h with h | h
  ·simp at h
  ·exact h
 | cons RA r Qo=>
  obtain ⟨y,k⟩:=RA;intro n acc h;unfold iw;split
  ·rename_i hk;refine Qo _ _ ?_;rcases h with h | h
   ·rcases aq.mp h with h | h
    ·cases h;right;simp [aY]
    ·exact .inl h
   ·right;rw [aY];cases x==y<;>simp [h]
  ·rename_i hk;refine Qo _ _ ?_;rcases h with h | h
   ·rcases aq.mp h with h | h
    ·cases h;exact absurd rfl hk
    ·exact .inl h
   ·exact .inr h
theorem ww:∀ (names:List (Str×eN)) (n:Nat) (acc:List (Str×Addr)),db (names.map (·.1))=true->(∀ y∈names.map (·.1),y∉acc.map (·.1))->(∀ x c,(x,c)∈acc->acc.lookup x=some c)->
  ∀ x c,(x,c)∈iw n names acc->(iw n names acc).lookup x=some c:=by iterate 0
 intro names;induction names with
 | nil=>intro _ acc _ _ h x c hm;exact h x c hm
 | cons RA r Qo=>
  obtain ⟨y,k⟩:=RA;intro n acc hd hn h x c hm;rw [aB] at hd;dsimp only [db] at hd;simp only [ai,bG,c7,decide_eq_false_iff_not] at hd;unfold iw at hm ⊢;split at hm
  ·rename_i hk;rw [if_pos hk];refine Qo _ _ hd.2 (fun z hz VP=>?_) (fun z c' hz=>?_) x c hm
   ·rw [aB] at VP;rcases aq.mp VP with e | e
    ·subst e;exact hd.1 hz
    ·exact hn z (av _ hz) e
   ·rw [aY];rcases aq.mp hz with e | e
    ·cases e;simp
    ·have:z≠y:=fun q=>hn y (by simp) (q▸aH.mpr ⟨(z,c'),e,rfl⟩);have q:(z==y)=false:=by simpa using this
     rw [q];exact h z c' e
  ·rename_i hk;rw [if_neg hk];exact Qo _ _ hd.2 (fun z hz=>hn z (av _ hz)) h x c hm
theorem HI:∀ {kindOf:Str->Option eN},∀ {ps:List Str} {vs:List ag} {m:Str->Option ag},db ps=true->
  (∀ x,x∉ps->bindL kindOf (ps.zip vs) m x=m x)/\∀ (i:Nat) x v,ps[i]? =some x->vs[i]? =some v->kindOf x=some .local->bindL kindOf (ps.zip vs) m x=some v:=by iterate 1
 intro ps;induction ps with
 | nil=>intro vs m _;exact ⟨fun _ _=>rfl,fun i x v h=>by simp at h⟩
 | cons p ps Qo=>
  intro vs m hd;cases vs with
  | nil=>exact ⟨fun _ _=>rfl,fun i x v _ h=>by simp at h⟩
  | cons u vs=>
   dsimp only [db] at hd;simp only [ai,bG,c7,decide_eq_false_iff_not] at hd;have ih:=Qo (vs:=vs) (m:=if kindOf p=some .local then fun y=>if y=p then some u else m y else m) hd.2;refine ⟨fun x hx=>?_,fun i x v h1 h2 hk=>?_⟩
   ·simp only [aq,not_or] at hx;show bindL kindOf (ps.zip vs) _ x=m x;rw [ih.1 x hx.2];split<;>simp [hx.1]
   ·cases i with | zero=>simp at h1 h2;subst h1;subst h2;show bindL kindOf (ps.zip vs) _ p=some u;rw [ih.1 p hd.1,if_pos hk];simp | succ i=>exact ih.2 i x v (by simpa using h1) (by simpa using h2) hk
theorem Gq:∀ {kindOf:Str->Option eN},∀ {ps:List Str} {vs:List ag} {m:Str->Option ag},db ps=true->
  (∀ x,x∉ps->bindC kindOf (ps.zip vs) m x=m x)/\∀ (i:Nat) x v,ps[i]? =some x->vs[i]? =some v->kindOf x≠some .local->bindC kindOf (ps.zip vs) m x=some v:=by iterate 1
 intro ps;induction ps with
 | nil=>intro vs m _;exact ⟨fun _ _=>rfl,fun i x v h=>by simp at h⟩
 | cons p ps Qo=>
  intro vs m hd;cases vs with
  | nil=>exact ⟨fun _ _=>rfl,fun i x v _ h=>by simp at h⟩
  | cons u vs=>
   dsimp only [db] at hd;simp only [ai,bG,c7,decide_eq_false_iff_not] at hd;have ih:=Qo (vs:=vs) (m:=if kindOf p=some .local then m else fun y=>if y=p then some u else m y) hd.2;refine ⟨fun x hx=>?_,fun i x v h1 h2 hk=>?_⟩
   ·simp only [aq,not_or] at hx;show bindC kindOf (ps.zip vs) _ x=m x;rw [ih.1 x hx.2];split<;>simp [hx.1]
   ·cases i with | zero=>simp at h1 h2;subst h1;subst h2;show bindC kindOf (ps.zip vs) _ p=some u;rw [ih.1 p hd.1,if_neg hk];simp | succ i=>exact ih.2 i x v (by simpa using h1) (by simpa using h2) hk
theorem uQ:∀ {x:Str} {d:D},∀ {ps:List Str} {ds:List D},(ps.zip ds).lookup x=some d->∃ i:Nat,ps[i]? =some x/\ds[i]? =some d:=by iterate 2
 intro ps;induction ps with
 | nil=>intro _ h;simp at h
 | cons p ps Qo=>
  intro ds h;cases ds with
  | nil=>simp at h
  | cons e ds=>rw [fH,aY] at h;cases q:x==p with | true=>rw [q] at h;simp at h;subst h;exact ⟨0,by simp [eq_of_beq q],by simp⟩ | false=>rw [q] at h;obtain ⟨i,h1,h2⟩:=Qo h;exact ⟨i+1,by simpa using h1,by simpa using h2⟩
theorem zR:∀ {l:List (Str×Addr)} {p q:Str×Addr} (h:l.Pairwise fun x y=>x.2≠y.2) (hp:p∈l) (hq:q∈l) (e:p.2=q.2),p=q:=by iterate 7
 induction l with
 | nil=>simp at hp
 | cons x l ih=>
  rw [List.pairwise_cons] at h;rcases aq.mp hp with rfl | Wo<;>rcases aq.mp hq with rfl | hq'
  ·rfl
  ·exact absurd e (h.1 q hq')
  ·exact absurd e.symm (h.1 p Wo)
  ·exact ih h.2 Wo hq'
theorem FU:∀ {fn:Fn} {a:Addr} {ds:List D} {vs:List ag} {fd:eO} {Ql:ah} (hw:Qs J W s) (hd:Qt J W.F W.as ds vs) (hlen:fn.params.length=ds.length) (hg:wu fn=true) (Ve:fd.scope=fn.scope) (hgl:fd.globals=bC) (V3:fd.builtins=bU) (x:InCallC s (fc fd s.heap.objs.size a).locals (bindL (fc fd s.heap.objs.size a).kindOf (fn.params.zip vs) fun _=>none) (fc fd s.heap.objs.size a).cells
    (bindC (fc fd s.heap.objs.size a).kindOf (fn.params.zip vs) fun _=>none) Ql),Qp J [] W s W Ql/\Qq J W Ql.heap fn.scope ⟨fn.params.zip ds,[],none⟩ (fc fd s.heap.objs.size a) []/\∀ b∈am (fc fd s.heap.objs.size a),s.heap.get? b=none:=by iterate 14
 simp only [wu,ai] at hg;obtain ⟨⟨⟨⟨⟨⟨g1,g2⟩,g3⟩,g4⟩,g5⟩,g7⟩,g6⟩:=hg;have hk:(fc fd s.heap.objs.size a).kindOf=fun x=>fn.scope.names.lookup x:=by funext y;show fd.scope.names.lookup y=_;rw [Ve]
 have Uh:(fc fd s.heap.objs.size a).cells=iw (s.heap.objs.size+1) fn.scope.names []:=by show iw (s.heap.objs.size+1) fd.scope.names []=_;rw [Ve]
 have XU:=hd.length;have fresh:∀ b∈am (fc fd s.heap.objs.size a),s.heap.get? b=none:=fun b hb=>by
  refine ik ?_;rcases aq.mp hb with rfl | hb
  ·exact x.toInCall.fresh
  ·obtain ⟨p,hp,rfl⟩:=aH.mp hb;exact fU (iJ x.toInCall.fresh (x.above p.1 p.2 hp))
 obtain ⟨h',tk,hs⟩:=x.toInCall.same;have tr:Qp J [] W s W Ql:=by subst hs;exact Qp.grow (X:=[]) hw (fun b o _ e=>x.toInCall.keep b o e) (fun b o e=>⟨o,x.toInCall.keep b o e⟩) (by simp) rfl rfl
 refine ⟨tr,?_,fresh⟩;exact {
  kind:=by show fd.scope.kind=_;rw [Ve];simpa using g1
  glob:=hgl
  bi:=V3
  kd:=fun y k e=> .inl (by rw [hk];exact e)
  ns:=⟨_,x.toInCall.ns⟩
  vars:=fun y d e=>by
   rcases zK e with ⟨q,e⟩ | ⟨q,e⟩ | ⟨q,e⟩
   ·exact absurd q (tz g6 y)
   ·obtain ⟨i,h1,h2⟩:=uQ e;obtain ⟨v,h3,h4⟩:=hd.get h2;refine ⟨v,.inl ⟨by rw [hk];exact q,_,x.toInCall.ns,(HI g5).2 i y v h1 h3 (by rw [hk];exact q)⟩,h4⟩
   ·obtain ⟨i,h1,h2⟩:=uQ e;obtain ⟨v,h3,h4⟩:=hd.get h2;obtain ⟨c,hc⟩:=b6.mp (sw fn.scope.names (s.heap.objs.size+1) [] (.inl (al q)));rw [<-Uh] at hc;refine ⟨v,.inr ⟨.inl (by rw [hk];exact q),c,hc,?_⟩,h4⟩;have:=x.cell y c hc;rw [(Gq g5).2 i y v h1 h3 (by rw [hk];show fn.scope.names.lookup y≠_;rw [q];simp)] at this;exact this
  cells:=fun y e=>by
   rcases CA e with q | q
   ·exact absurd q (tz g6 y)
   ·obtain ⟨c,hc⟩:=b6.mp (sw fn.scope.names (s.heap.objs.size+1) [] (.inl (al q)));rw [<-Uh] at hc;exact ⟨c,_,hc,x.cell y c hc⟩
  inj:=fun y z c h1 h2=>by have:=zR x.apart (al h1) (al h2) rfl;cases this;rfl
  Rx:=fun y c h1=>iX (x.above y c (al h1))
  apart:=fun b hb=>by
   rw [aS] at hb;have n:=hw.QQ (fresh b hb);refine ⟨.inl n.1,n.2.1,n.2.2,?_⟩;rcases aq.mp hb with rfl | hb
   ·obtain ⟨o,_,_,e,_⟩:=x.toInCall.ns;exact ⟨o,e⟩
   ·obtain ⟨p,hp,rfl⟩:=aH.mp hb;have:(fc fd s.heap.objs.size a).cells.lookup p.1=some p.2:=by
     rw [Uh] at hp ⊢;exact ww _ _ [] g7 (by simp) (by simp) _ _ hp
    obtain ⟨o,e,_⟩:=x.cell _ _ this;exact ⟨o,e⟩
  own:=fun y o e=>by cases e
  Rj:=fun y o e=>by cases e}
end
noncomputable def Apart (J:Cx) (W:Wd) (h:Heap) (a:Addr):Prop:=W.F a=none/\a∉J.T/\a∉W.QK.flatten/\∃ o,h.get? a=some o
structure QT (J:Cx) (I:Addr) (St:List D->Wd->Heap->Prop):Prop where
 self:∀ (A:bf) (W:Wd) (s:ah) ds (Q E:ag->ah->Prop),A.handled=none->St ds W s.heap->Q (.ref I) s->aD (aC P0 J.w) A (kz (.ref I)) Q E s
 next:∀ (A:bf) (W:Wd) (s:ah) d ds (Q:Option ag->ah->Prop) (E:ag->ah->Prop),A.handled=none->St (d::ds) W s.heap->(∀ b o,W.F b=some o->s.heap.get? b=some o)->W.F I=none->
  (∀ v h' tk,Rd J W.F W.as d v->St ds W h'->(∃ o,h'.get? I=some o)->(∀ b o,b≠I->s.heap.get? b=some o->h'.get? b=some o)->
   (∀ (A':bf) (target:Expr) (Q':Unit->ah->Prop) (E':ag->ah->Prop) (s':ah),s'.heap=h'->Q' () s'->aD (aC P0 J.w) A' (cH target (.ref I) v) Q' E' s')->Q (some v) {s with heap:=h',toks:=tk})->
  aD (aC P0 J.w) A (eF (.ref I)) Q E s
 done:∀ (A:bf) (W:Wd) (s:ah) (Q:Option ag->ah->Prop) (E:ag->ah->Prop),A.handled=none->St [] W s.heap->(∀ b o,W.F b=some o->s.heap.get? b=some o)->W.F I=none->
  (∀ h' tk,(∀ b o,b≠I->s.heap.get? b=some o->h'.get? b=some o)->Q none {s with heap:=h',toks:=tk})->aD (aC P0 J.w) A (eF (.ref I)) Q E s
 keep:∀ ds (W W':Wd) (h h':Heap),St ds W h->PM.le W.F W'.F->Pre W.as W'.as->(∀ o,h.get? I=some o->h'.get? I=some o)->St ds W' h'
 there:∀ ds W h,St ds W h->∃ o,h.get? I=some o
section
variable {J:Cx} {A:bf} {W:Wd} {s:ah} {X:List Addr} {sc:aX} {st:St} {env:Env} {ow:List Addr} {h:Heap}
theorem Apart.keep:∀ {W':Wd} {s':ah} {a:Addr} (ahg:Apart J W s.heap a) (t:Qp J X W s W' s'),Apart J W' s'.heap a:=by iterate 5
 obtain ⟨h1,h2,h3,o,h4⟩:=ahg;obtain ⟨o',h5⟩:=t.there a o h4;refine ⟨?_,h2,fun hm=>?_,o',h5⟩
 ·cases e:W'.F a with
  | none=>rfl
  | some o'=>
   rcases t.fresh a o' e with q | q
   ·rw [h1] at q;cases q
   ·rw [h4] at q;cases q
 ·rcases t.QK a hm with q | q
  ·exact h3 q
  ·rw [h4] at q;cases q
theorem Apart.at:∀ {W':Wd} {s':ah} {a:Addr} (ahg:Apart J W s.heap a) (t:Qp J X W s W' s') (hX:a∉X),∀ o,s.heap.get? a=some o->s'.heap.get? a=some o:=by iterate 6 exact (fun o e=>t.keep a o ahg.2.1 ahg.2.2.1 hX e)
theorem Qp.RB:∀ {W0:Wd} {s0:ah} {I:Addr} {h':Heap} {tk:Nat} (t:Qp J X W0 s0 W s) (RY:Qs J W0 s0) (hI:s0.heap.get? I=none) (ap:W.F I=none/\I∉J.T/\I∉W.QK.flatten) (k:∀ b o,b≠I->s.heap.get? b=some o->h'.get? b=some o),Qp J X W0 s0 W {s with heap:=h',toks:=tk}:=by iterate 10
 exact {
  ok:={
   sub:=fun a o e=>k a o (fun q=>by rw [q,ap.1] at e;cases e) (t.ok.sub a o e)
   base:=t.ok.base
   RD:=t.ok.RD
   low:=fun a o e=>by obtain ⟨o1,e1⟩:=RY.low a o e;obtain ⟨o2,e2⟩:=t.there a o1 e1;exact ⟨o2,k a o2 (fun q=>by rw [q,hI] at e1;cases e1) e2⟩
   tab:=fun T hT=>(t.ok.tab T hT).keep (PM.le.refl _) fun o e=>k _ o (fun q=>ap.2.1 (q▸cM hT)) e
   Rg:=t.ok.Rg
   Rm:=t.ok.Rm
   obj:=fun i mo a fp h1 h2 h3=>(t.ok.obj i mo a fp h1 h2 h3).keep (PM.le.refl _) (Pre.refl _) fun b hb o e=>k b o (fun q=>ap.2.2 (q▸qP h3 hb)) e
   nodup:=t.ok.nodup
   RI:=fun a ha=>⟨(t.ok.RI a ha).1,(t.ok.RI a ha).2.1,(by obtain ⟨o,e⟩:=(t.ok.RI a ha).2.2;exact ⟨o,k a o (fun q=>ap.2.2 (q▸ha)) e⟩)⟩
   bare:=t.ok.bare
   os:=t.ok.os}
  le:=t.le
  fresh:=t.fresh
  keep:=fun a o h1 h2 h3 e=>k a o (fun q=>by rw [q,hI] at e;cases e) (t.keep a o h1 h2 h3 e)
  there:=fun a o e=>by obtain ⟨o2,e2⟩:=t.there a o e;exact ⟨o2,k a o2 (fun q=>by rw [q,hI] at e;cases e) e2⟩
  as:=t.as
  QK:=t.QK
  gens:=t.gens}
theorem Qq.Tw:∀ {h':Heap} {I:Addr} {tk:Nat} (ahg:Qq J W s.heap sc st env ow) (hI:I∉am env++ow) (k:∀ b o,b≠I->s.heap.get? b=some o->h'.get? b=some o),Qq J W h' sc st env ow:=by iterate 6 exact (ahg.U7 (s':={s with heap:=h',toks:=tk}) (fun a ha o e=>k a o (fun q=>hI (q▸ha)) e) (PM.le.refl _) (Pre.refl _) (fun _ _ e=> .inl e) fun _ e=> .inl e)
theorem pG:∀ {I:Addr} {o:Obj} {n:String} {vs:Array ag} {target:Expr} {v:ag} {Q':Unit->ah->Prop} {E:ag->ah->Prop} (ho:s.heap.get? I=some o) (hc:o.cls= .type n) (hd:o.data= .fields vs) (hn:["enumerate","zip","dict_itemiterator","dict_reverseitemiterator","odict_iterator","itertools.zip_longest","itertools.pairwise"].contains n=false) (h:Q' () s),aD (aC P0 J.w) A (cH target (.ref I) v) Q' E s:=by iterate 13
 unfold cH;cases target<;>first
  | exact ay h
  | (cases v<;>first
    | exact ay h
    | (refine ae (wpAny_load ho ?_);rw [hc,hd];simp only [hn,j2,bX,if_false];exact ay h))
theorem Qt.drop_cons:∀ {F:PM} {as:List Addr} {d:D} {ds all:List D} {vs:List ag} {i:Nat} (r:Qt J F as all vs) (e:d::ds=all.drop i),∃ v,vs[i]? =some v/\Rd J F as d v/\ds=all.drop (i+1):=by iterate 9
 have h1:all[i]? =some d:=by have:=congrArg (·[0]?) e;simp at this;exact this.symm
 obtain ⟨v,h2,h3⟩:=r.get h1;refine ⟨v,h2,h3,?_⟩;have:=congrArg jA e;simpa using this
noncomputable def Fj (J:Cx) (cls:String) (I l:Addr) (vs:List ag) (all:List D):List D->Wd->Heap->Prop:=fun ds W h=>
 ∃ i:Nat,ds=all.drop i/\(∃ o,h.get? I=some o/\o.cls= .type cls/\o.data= .fields #[.ref l,.int i 0])/\Qt J W.F W.as all vs
theorem Bj:∀ {I l:Addr} {vs:List ag} {all:List D},QT J I fun ds W h=>Fj J "list_iterator" I l vs all ds W h/\Rf W.F l vs:=by iterate 4
 exact {
  self:=fun A W s ds Q E _ z0 hq=>by obtain ⟨⟨i,_,h2,_⟩,_⟩:=z0;exact wpAny_pyIter_listiter h2 hq
  next:=fun A W s d ds Q E hA z1 hs hI hq=>by obtain ⟨⟨i,h1,h2,h3⟩,h4⟩:=z1;obtain ⟨v,e1,e2,e3⟩:=h3.drop_cons h1;have hl:=Rf.isList h4 hs;refine lP h2 hl (x:=v) (by simpa using e1) fun h' hi sb=>?_;refine hq v h' s.toks e2 ⟨⟨i+1,e3,hi,h3⟩,h4⟩ (by obtain ⟨o,e,_⟩:=hi;exact ⟨o,e⟩) (fun b o hb e=>(sb.2 b hb).trans e) fun A' target Q' E' s' TF q=>?_;obtain ⟨o,e,c,d⟩:=hi;exact pG (by rw [TF];exact e) c d rfl q
  done:=fun A W s Q E hA z2 hs hI hq=>by
   obtain ⟨⟨i,h1,h2,h3⟩,h4⟩:=z2;have hl:=Rf.isList h4 hs;refine l7 hA h2 hl ?_ fun h' sb=>hq h' s.toks fun b o hb e=>sb b o hb e;have:all.length<=i:=by have:=congrArg fj h1;simp at this;omega
   have l:=h3.length;simp;omega
  keep:=fun ds W W' h h' z3 k1 k2 k3=>by obtain ⟨⟨i,h1,⟨o,e,c,d⟩,h3⟩,h4⟩:=z3;exact ⟨⟨i,h1,⟨o,k3 _ e,c,d⟩,h3.mono k1 k2⟩,h4.mono k1⟩
  there:=fun ds W h z4=>by obtain ⟨⟨i,h1,⟨o,e,c,d⟩,h3⟩,h4⟩:=z4;exact ⟨o,e⟩}
theorem BE:∀ {I l:Addr} {vs:List ag} {all:List D},QT J I fun ds W h=>Fj J "tuple_iterator" I l vs all ds W h/\Sn W.F l vs:=by iterate 4
 exact {
  self:=fun A W s ds Q E _ z5 hq=>by obtain ⟨⟨i,_,h2,_⟩,_⟩:=z5;exact wpAny_pyIter_tupleiter h2 hq
  next:=fun A W s d ds Q E hA z6 hs hI hq=>by obtain ⟨⟨i,h1,h2,h3⟩,h4⟩:=z6;obtain ⟨v,e1,e2,e3⟩:=h3.drop_cons h1;have hl:=Sn.Ur h4 hs;refine wpAny_pyNext_tuple_item h2 hl (x:=v) (by simpa using e1) fun h' hi sb=>?_;refine hq v h' s.toks e2 ⟨⟨i+1,e3,hi,h3⟩,h4⟩ (by obtain ⟨o,e,_⟩:=hi;exact ⟨o,e⟩) (fun b o hb e=>(sb.2 b hb).trans e) fun A' target Q' E' s' TF q=>?_;obtain ⟨o,e,c,d⟩:=hi;exact pG (by rw [TF];exact e) c d rfl q
  done:=fun A W s Q E hA z7 hs hI hq=>by
   obtain ⟨⟨i,h1,h2,h3⟩,h4⟩:=z7;have hl:=Sn.Ur h4 hs;refine wpAny_pyNext_tuple_end hA h2 hl ?_ fun h' sb=>hq h' s.toks fun b o hb e=>sb b o hb e;have:all.length<=i:=by have:=congrArg fj h1;simp at this;omega
   have l:=h3.length;simp;omega
  keep:=fun ds W W' h h' z8 k1 k2 k3=>by obtain ⟨⟨i,h1,⟨o,e,c,d⟩,h3⟩,h4⟩:=z8;exact ⟨⟨i,h1,⟨o,k3 _ e,c,d⟩,h3.mono k1 k2⟩,h4.mono k1⟩
  there:=fun ds W h z9=>by obtain ⟨⟨i,h1,⟨o,e,c,d⟩,h3⟩,h4⟩:=z9;exact ⟨o,e⟩}
theorem zM:∀ {I:Addr},QT J I fun ds _ h=>∃ (n:Nat) (a:Int),ds=vH n a/\IsRangeIter h I a n 1:=by iterate 1
 exact {
  self:=fun A W s ds Q E _ z10 hq=>by obtain ⟨n,a,_,h2⟩:=z10;exact wpAny_pyIter_rangeiter h2 hq
  next:=fun A W s d ds Q E hA z11 hs hI hq=>by
   obtain ⟨n,a,h1,h2⟩:=z11;cases n with
   | zero=>(dsimp only [vH] at h1;simp at h1)
   | succ n=>
    (dsimp only [vH] at h1;simp only [gy] at h1)
    obtain ⟨rfl,rfl⟩:=h1;refine wpAny_pyNext_range_item h2 (by omega) fun h' hi sb=>?_;have Vm:IsRangeIter h' I (a+1) (n:Int) 1:=by
     have:((n+1:Nat):Int)-1=n:=by omega
     rw [this] at hi;exact hi
    refine hq _ h' _ (by dsimp only [Rd];exact ⟨_,rfl⟩) ⟨n,a+1,rfl,Vm⟩ ⟨_,Vm⟩ (fun b o hb e=>(sb.2 b hb).trans e) fun A' target Q' E' s' TF q=>?_;exact pG (by rw [TF];exact Vm) rfl rfl rfl q
  done:=fun A W s Q E hA z12 hs hI hq=>by
   obtain ⟨n,a,h1,h2⟩:=z12;have hn:n=0:=by cases n with | zero=>rfl | succ n=>(dsimp only [vH] at h1;simp at h1)
   subst hn;exact wpAny_pyNext_range_end hA h2 (by omega) fun h' sb=>hq h' s.toks fun b o hb e=>sb b o hb e
  keep:=fun ds W W' h h' z13 k1 k2 k3=>by obtain ⟨n,a,h1,h2⟩:=z13;exact ⟨n,a,h1,k3 _ h2⟩
  there:=fun ds W h z14=>by obtain ⟨n,a,h1,h2⟩:=z14;exact ⟨_,h2⟩}
theorem Sb.get:∀ {ws:List (Int×ag)} {QC:List (Int×Int)},Sb ws QC->∀ {i:Nat} {p:Int×Int},QC[i]? =some p->∃ v,ws[i]? =some (p.1,v):=by iterate 0
 intro ws;induction ws with
 | nil=>intro _ h i p e;dsimp only [Sb] at h;subst h;simp at e
 | cons RA r Qo=>obtain ⟨k,v⟩:=RA;intro _ h i p e;dsimp only [Sb] at h;obtain ⟨j,t,r',rfl,rfl,h⟩:=h;cases i with | zero=>simp at e;subst e;exact ⟨_,rfl⟩ | succ i=>obtain ⟨v,h1⟩:=Qo h (i:=i) (by simpa using e);exact ⟨v,by simpa using h1⟩
noncomputable def Lw (J:Cx) (I d:Addr) (QC:List (Int×Int)):List D->Wd->Heap->Prop:=fun ds W h=>
 ∃ (i:Nat) (o:Obj) (ws:List (Int×ag)) (ep:Nat),ds=(QC.map fun p=>D.int p.1).drop i/\W.F d=some o/\(∀ h:Heap,h.get? d=some o->h.DictAt (IK J) d ws ep)/\Sb ws QC/\h.IsKeyIter I d i ws.length ep
theorem Ba:∀ {I d:Addr} {QC:List (Int×Int)},QT J I (Lw J I d QC):=by iterate 3
 exact {
  self:=fun A W s ds Q E _ z15 hq=>by obtain ⟨i,o,ws,ep,_,_,_,_,h⟩:=z15;exact wpAny_pyIter_keyiter h hq
  next:=fun A W s d' ds Q E hA z16 hs hI hq=>by
   obtain ⟨i,o,ws,ep,h1,h2,h3,h4,h5⟩:=z16;have e1:QC[i]?.map (fun p=>D.int p.1)=some d':=by have:=congrArg (·[0]?) h1;simp at this;simpa using this.symm
   have e2:ds=(QC.map fun p=>D.int p.1).drop (i+1):=by have:=congrArg jA h1;simpa using this
   obtain ⟨p,e3,rfl⟩:=ba.mp e1;obtain ⟨v,e4⟩:=h4.get e3;refine wpAny_pyNext_dict_item h5 (h3 _ (hs _ _ h2)) e4 fun key h' hk hi sb=>?_;have hk':∃ t,key= .int p.1 t:=Value.isInt_shape hk;refine hq key h' _ (by dsimp only [Rd];exact hk') ⟨i+1,o,ws,ep,e2,h2,h3,h4,hi⟩ (by obtain ⟨o,e,_⟩:=hi;exact ⟨o,e⟩) (fun b o hb e=>(sb.2 b hb).trans e) fun A' target Q' E' s' TF q=>?_;obtain ⟨o,e,c,dd⟩:=hi;exact pG (by rw [TF];exact e) c dd rfl q
  done:=fun A W s Q E hA z17 hs hI hq=>by
   obtain ⟨i,o,ws,ep,h1,h2,h3,h4,h5⟩:=z17;refine wpAny_pyNext_dict_end hA h5 (h3 _ (hs _ _ h2)) ?_ fun h' sb=>hq h' s.toks fun b o hb e=>sb b o hb e;have:QC.length<=i:=by have:=congrArg fj h1;simp at this;omega
   have l:=h4.length;simp;omega
  keep:=fun ds W W' h h' z18 k1 k2 k3=>by obtain ⟨i,o,ws,ep,h1,h2,h3,h4,⟨o',e,c,dd⟩⟩:=z18;exact ⟨i,o,ws,ep,h1,k1 _ _ h2,h3,h4,⟨o',k3 _ e,c,dd⟩⟩
  there:=fun ds W h z19=>by obtain ⟨i,o,ws,ep,h1,h2,h3,h4,⟨o',e,c,dd⟩⟩:=z19;exact ⟨o',e⟩}
theorem xK:∀ {I:Addr} {x:List Nat} {t:Tok} {cls:String} (abr:(["enumerate","zip","dict_itemiterator","dict_reverseitemiterator","odict_iterator","itertools.zip_longest","itertools.pairwise"].contains cls)=false) (Wk:∀ A':bf,A'.handled=none->Walks P0 J.w A' I [I] [I] x.length (SignAt ⟨x.toArray⟩) (fun i h=>h.IsStrIter I cls ⟨x.toArray⟩ t i)),QT J I fun ds _ h=>∃ i:Nat,i<=x.length/\ds=(x.map fun c=>D.str [c]).drop i/\h.IsStrIter I cls ⟨x.toArray⟩ t i:=by iterate 6
 exact {
  self:=fun A W s ds Q E hA z20 hq=>by obtain ⟨i,h0,h1,h2⟩:=z20;exact (Wk A hA).self i s Q E h2 hq
  next:=fun A W s d ds Q E hA z21 hs hI hq=>by
   obtain ⟨i,h0,h1,h2⟩:=z21;have e1:x[i]?.map (fun c=>D.str [c])=some d:=by have:=congrArg (·[0]?) h1;simp at this;simpa using this.symm
   have e2:ds=(x.map fun c=>D.str [c]).drop (i+1):=by have:=congrArg jA h1;simpa using this
   obtain ⟨c,e3,rfl⟩:=ba.mp e1;have RO:=(ak.mp e3).1;refine (Wk A hA).item i s Q E RO h2 fun v h' tk hv hi sb=>?_;obtain ⟨c',u,e4,rfl⟩:=hv;have e4':x[i]? =some c':=by simpa using e4
   have:c'=c:=by rw [e3] at e4';exact (bh e4').symm
   subst this;refine hq _ h' tk (by dsimp only [Rd];exact ⟨(by show 1<=lim;decide),u,rfl⟩) ⟨i+1,RO,e2,hi⟩ (by obtain ⟨o,e,_⟩:=hi;exact ⟨o,e⟩) (fun b o hb e=>sb b o (by simpa using hb) e) fun A' target Q' E' s' TF q=>?_;obtain ⟨o,e,c,dd⟩:=hi;exact pG (by rw [TF];exact e) c dd abr q
  done:=fun A W s Q E hA z22 hs hI hq=>by
   obtain ⟨i,h0,h1,h2⟩:=z22;have:i=x.length:=by have:=congrArg fj h1;simp at this;omega
   subst this;exact (Wk A hA).done s Q E h2 fun h' tk sb=>hq h' tk fun b o hb e=>sb b o (by simpa using hb) e
  keep:=fun ds W W' h h' z23 k1 k2 k3=>by obtain ⟨i,h0,h1,⟨o,e,r⟩⟩:=z23;exact ⟨i,h0,h1,⟨o,k3 _ e,r⟩⟩
  there:=fun ds W h z24=>by obtain ⟨i,h0,h1,⟨o,e,r⟩⟩:=z24;exact ⟨o,e⟩}
noncomputable def LH (J:Cx) (W:Wd) (s:ah) (ds:List D) (it:ag) (s':ah):Prop:=
 ∃ I St,it= .ref I/\QT J I St/\St ds W s'.heap/\s.heap.get? I=none/\Qp J [] W s W s'
theorem wd:∀ {d:D} {ds:List D} {v:ag} {E:ag->ah->Prop} (e:itemsOf d=some ds) (r:Rd J W.F W.as d v) (hw:Qs J W s),aD (aC P0 J.w) A (kz v) (LH J W s ds) E s:=by iterate 7
 have new:s.heap.get? s.heap.objs.size=none:=bv _;cases d with
 | lst xs=>replace e:some _=some ds:=e;cases e;obtain ⟨hl,a1,ws,n1,s1,rfl,e1,r1⟩:=io r;refine nB (items:=ws.toArray) ⟨_,hw.sub _ _ e1,rfl,n1,rfl⟩ ?_;exact ⟨_,_,rfl,Bj (l:=a1) (vs:=ws),⟨⟨0,by simp,⟨_,ax _ rfl,rfl,rfl⟩,r1⟩,⟨_,_,e1,rfl,rfl,rfl⟩⟩,new,Qp.push (tk:=s.toks) hw _⟩
 | tup xs=>replace e:some _=some ds:=e;cases e;obtain ⟨hl,a1,ws,n1,s1,rfl,e1,r1⟩:=qH r;refine wpAny_pyIter_tuple (items:=ws.toArray) ⟨_,hw.sub _ _ e1,rfl,n1,rfl⟩ ?_;exact ⟨_,_,rfl,BE (l:=a1) (vs:=ws),⟨⟨0,by simp,⟨_,ax _ rfl,rfl,rfl⟩,r1⟩,⟨_,_,e1,rfl,rfl,rfl⟩⟩,new,Qp.push (tk:=s.toks) hw _⟩
 | QH QC=>replace e:some _=some ds:=e;cases e;dsimp only [Rd] at r;obtain ⟨hl,a,rfl,hn,o,ws,ep,e1,e2,e3⟩:=r;have QE:=e2 _ (hw.sub _ _ e1);refine wpAny_pyIter_dict hn QE ?_;exact ⟨_,_,rfl,Ba,⟨0,o,ws,ep,by simp,e1,e2,e3,⟨_,ax _ rfl,rfl,rfl⟩⟩,new,Qp.push (tk:=s.toks) hw _⟩
 | rng a b=>
  replace e:(if y7 a b=true then _ else _)=some ds:=e;split at e
  ·rename_i hs;cases e;obtain ⟨h1,h2,h3⟩:=wO hs;dsimp only [Rd] at r;obtain ⟨q,t,u,w',rfl,hq⟩:=r;refine wpAny_pyIter_range (hw.sub _ _ hq) h1 ?_;rw [h3];exact ⟨_,_,rfl,zM,⟨_,_,rfl,ax _ rfl⟩,new,Qp.push (tk:=s.toks) hw _⟩
  ·cases e
 | str x=>
  replace e:some _=some ds:=e;cases e;dsimp only [Rd] at r;obtain ⟨hl,t,rfl⟩:=r;cases ha:(⟨x.toArray⟩:Str).cps.all (· <128)
  ·refine wpAny_pyIter_wide ha ?_;have sz:x.length=(⟨x.toArray⟩:Str).cps.size:=by simp
   exact ⟨_,_,rfl,xK (x:=x) (t:=t) (cls:="str_iterator") rfl (fun A' hA=>sz▸Walks.strWide hA _ ⟨x.toArray⟩ t),⟨0,jL _,by simp,⟨_,ax _ rfl,rfl,rfl⟩⟩,new,Qp.push (tk:=s.toks) hw _⟩
  ·refine wpAny_pyIter_ascii ha ?_;have sz:x.length=(⟨x.toArray⟩:Str).cps.size:=by simp
   exact ⟨_,_,rfl,xK (x:=x) (t:=t) (cls:="str_ascii_iterator") rfl (fun A' hA=>sz▸Walks.strAscii hA _ ⟨x.toArray⟩ t),⟨0,jL _,by simp,⟨_,ax _ rfl,rfl,rfl⟩⟩,new,Qp.push (tk:=s.toks) hw _⟩
 | _=>exact nomatch (show none=some ds from e)
theorem Eg:∀ {it l:Addr} {items:Array ag} {E:ag->ah->Prop} (Rt:l≠it),∀ (n i:Nat) (s:ah) (Q:List ag->ah->Prop),s.heap.IsListIter it l i->s.heap.IsList l items->i+n<=items.size->
  (∀ h',h'.IsListIter it l (i+n)->bW it s.heap h'->Q ((items.toList.drop i).take n) {s with heap:=h'})->aD (aC P0 J.w) A (draw (.ref it) n) Q E s:=by iterate 5
 intro n;induction n with
 | zero=>intro i s Q hit _ _ hQ;show aD _ _ (pure []) Q E s;exact ay (by simpa using hQ s.heap hit (oJ ..))
 | succ n Qo=>
  intro i s Q hit ht hle hQ;have RO:i<items.size:=by omega
  show aD _ _ (eF (.ref it) >>=_) Q E s;refine ae (lP hit ht (x:=items[i]) (by simp [RO]) fun Q5 Ub TB=>?_);refine ae (bu (Qo (i+1) _ _ Ub (ht.extBut TB.extBut Rt) (by omega) fun Ry Xf RZ=>ay ?_));have hd:items.toList.drop i=items[i]::items.toList.drop (i+1):=by simp [fY,RO]
  have:=hQ Ry (by rw [show i+(n+1)=i+1+n by omega];exact Xf) (TB.trans RZ);rw [hd,dh] at this;exact this
theorem sL:∀ {l:Addr} {items:Array ag} {E:ag->ah->Prop} {Q:List ag->ah->Prop} (hh:A.handled=none) (ht:s.heap.IsList l items) (hQ:∀ h',fw s.heap.objs.size s.heap h'->Q items.toList {s with heap:=h'}),aD (aC P0 J.w) A (ku (.ref l) items.size none) Q E s:=by iterate 7
 have RO:l≠s.heap.objs.size:=by obtain ⟨o,ho,_⟩:=ht;exact fR (dK ho)
 unfold ku;refine ae ?_
 ·unfold notIterableAtAll;refine ae (f9 ht.typeIs PySem.F.slot_list_iter.lookup ?_);refine ay ?_;simp only [bX,if_false];refine ae (bu (nB ht ?_));refine ae (bu (Eg RO items.size 0 _ _ ⟨_,ax _ rfl,rfl,rfl⟩ (ht.push _) (by omega) fun Q5 Ub TB=>?_));have QD:List.take items.size (List.drop 0 items.toList)=items.toList:=by
   rw [j0];exact gN (by simp)
  rw [QD];rw [if_neg (by simp)];have Yk:Q5.IsList l items:=(ht.push _).extBut TB.extBut RO;refine ae (bu (l7 hh Ub Yk (by simp) fun Ry Vp=>?_));simp only [iq,bX,if_false];refine ay (hQ Ry fun b o hb e=>Vp b o hb (TB.extBut b o hb (aF _ e)))
theorem zi:∀ {ds:List D} {d:D} {v:ag} {n:Nat} {E:ag->ah->Prop} (hA:A.handled=none) (hd:d= .tup ds\/d= .lst ds) (r:Rd J W.F W.as d v) (hw:Qs J W s) (hn:n=ds.length),aD (aC P0 J.w) A (ku v n none) (fun vs s'=>Qt J W.F W.as ds vs/\Qp J [] W s W s') E s:=by iterate 10
 rcases hd with rfl | rfl
 ·obtain ⟨hl,a1,ws,n1,s1,rfl,e1,r1⟩:=qH r;have:n=ws.toArray.size:=by rw [hn,<-r1.length];simp
  subst this;exact wpAny_unpackItems_tuple hA ⟨_,hw.sub _ _ e1,rfl,n1,rfl⟩ fun h' e=>⟨by simpa using r1,hw.SP (tk:=s.toks) e⟩
 ·obtain ⟨hl,a1,ws,n1,s1,rfl,e1,r1⟩:=io r;have:n=ws.toArray.size:=by rw [hn,<-r1.length];simp
  subst this;exact sL hA ⟨_,hw.sub _ _ e1,rfl,n1,rfl⟩ fun h' e=>⟨by simpa using r1,hw.SP (tk:=s.toks) e⟩
end
noncomputable def qv:List Str->List D->Qr->Qr
| x::xs,d::ds,ρ=>qv xs ds ((x,d)::ρ)
| _,_,ρ=>ρ
theorem uR:∀ {xs:List Str} {ds:List D} {ρ:Qr},db xs=true->xs.length=ds.length->
  (∀ y,y∉xs->(qv xs ds ρ).lookup y=ρ.lookup y)/\∀ (i:Nat) y d,xs[i]? =some y->ds[i]? =some d->(qv xs ds ρ).lookup y=some d:=by iterate 0
 intro xs;induction xs with
 | nil=>intro ds ρ _ _;exact ⟨fun _ _=>rfl,fun i y d h=>by simp at h⟩
 | cons x xs Qo=>
  intro ds ρ hd hl;cases ds with
  | nil=>simp at hl
  | cons e ds=>
   dsimp only [db] at hd;simp only [ai,bG,c7,decide_eq_false_iff_not] at hd;have ih:=Qo (ds:=ds) (ρ:=(x,e)::ρ) hd.2 (by simpa using hl);refine ⟨fun y hy=>?_,fun i y d h1 h2=>?_⟩
   ·simp only [aq,not_or] at hy;show (qv xs ds _).lookup y=_;rw [ih.1 y hy.2,qq hy.1]
   ·cases i with | zero=>simp at h1 h2;subst h1;subst h2;show (qv xs ds _).lookup x=_;rw [ih.1 x hd.1,qr] | succ i=>exact ih.2 i y d (by simpa using h1) (by simpa using h2)
theorem Rc:∀ {xs:List Str},db xs=true↔xs.Nodup:=by iterate 0
 intro xs;induction xs with
 | nil=>(dsimp only [db];simp)
 | cons x xs Qo=>
  (dsimp only [db];simp only [ai,bG,c7,decide_eq_false_iff_not,cB])
  rw [Qo]
theorem A4:∀ {xs:List Str} {ds:List D} {ρ:Qr} (hd:db xs=true) (hl:xs.length=ds.length) (y:Str),(qv xs.reverse ds.reverse ρ).lookup y=(qv xs ds ρ).lookup y:=by iterate 6
 have Vr:db xs.reverse=true:=Rc.mpr (((List.reverse_perm xs).nodup_iff.mpr (Rc.mp hd)));have h1:=uR (ρ:=ρ) hd hl;have h2:=uR (ρ:=ρ) Vr (ds:=ds.reverse) (by simpa using hl);by_cases hy:y∈xs
 ·obtain ⟨i,hi,rfl⟩:=kX.mp hy;have Vm:i<ds.length:=by omega
  rw [h1.2 i xs[i] ds[i] (by simp) (by simp)];refine h2.2 (xs.length-1-i) xs[i] ds[i] ?_ ?_
  ·rw [bP (by omega)];have:xs.length-1-(xs.length-1-i)=i:=by omega
   rw [this];simp
  ·rw [bP (by omega)];have:ds.length-1-(xs.length-1-i)=i:=by omega
   rw [this];simp
 ·rw [h1.1 y hy,h2.1 y (by simpa using hy)]
theorem xj:∀ {ts:List Expr},∀ {ds:List D} {ρ Sh:Qr},yP ts ds ρ=some Sh->∃ xps:List (Str×Pos),ts=xps.map (fun p=>eA p.1 p.2)/\xps.length=ds.length/\Sh=qv (xps.map (·.1)) ds ρ:=by iterate 1 induction ts with | nil=>intro ds ρ Sh e;replace e:=bi e;obtain ⟨_,h1,e⟩:=e;cases oY h1;cases e;exact ⟨[],rfl,rfl,rfl⟩ | cons t ts ih=>intro ds ρ Sh e;replace e:=qO e;obtain ⟨x,h1,⟨d,Rh⟩,h2,e⟩:=e;obtain ⟨p,rfl⟩:=sj h1;cases qL h2;obtain ⟨xps,h1,h2,h3⟩:=ih e;exact ⟨(x,p)::xps,by rw [h1];rfl,congrArg (· +1) h2,h3⟩
section
variable {J:Cx} {A:bf} {W:Wd} {s:ah} {X:List Addr} {sc:aX} {st:St} {env:Env} {ow:List Addr} {h:Heap}
theorem Qq.congr:∀ {st':St} (ahg:Qq J W h sc st env ow) (hv:∀ x d,varD sc st' x=some d->varD sc st x=some d) (ho:st'.own=st.own),Qq J W h sc st' env ow:=by iterate 4
 exact {
  kind:=ahg.kind
  glob:=ahg.glob
  bi:=ahg.bi
  kd:=ahg.kd
  ns:=ahg.ns
  vars:=fun x d e=>ahg.vars x d (hv x d e)
  cells:=ahg.cells
  inj:=ahg.inj
  Rx:=ahg.Rx
  apart:=ahg.apart
  own:=fun x o e=>ahg.own x o (ho▸e)
  Rj:=fun x o e=>by
   have:=ahg.Rj x o (ho▸e);cases q:varD sc st' x with
   | none=>rfl
   | some d=>rw [hv x d q] at this;cases this}
theorem tV:∀ {Y:List Addr} {xs:List Str},∀ {fs:List (ag->Sem Unit)} {ds:List D} {vs:List ag} {st:St} {W:Wd} {s:ah},
  (∀ (i:Nat) f x,fs[i]? =some f->xs[i]? =some x->∀ v (Q:Unit->ah->Prop) (E:ag->ah->Prop) s,aD (aC P0 J.w) A (gV env x v) Q E s->aD (aC P0 J.w) A (f v) Q E s)->
  fs.length=xs.length->xs.length=ds.length->Qt J W.F W.as ds vs->(∀ x∈xs,pP sc x=true/\oS st x=true/\Q3 sc env Y x)->Qq J W s.heap sc st env ow->Qs J W s->
  aD (aC P0 J.w) A (assignInOrder fs vs) (fun _ s'=>Qp J Y W s W s'/\Qq J W s'.heap sc (st.withRho (qv xs ds st.ρ)) env ow) (fun _ _=>False) s:=by iterate 2
 induction xs with
 | nil=>intro fs ds vs st W s _ hl VV r _ ahg hw;cases eS hl;exact assignInOrder_nil ⟨Qp.refl hw,ahg⟩
 | cons x xs ih=>
  intro fs ds vs st W s hf hl VV r hx ahg hw;cases fs with
  | nil=>cases hl
  | cons f fs=>
   cases ds with
   | nil=>cases VV
   | cons d ds=>obtain ⟨v,SX,rfl,h1,h2⟩:=r;refine assignInOrder_cons (hf 0 f x rfl rfl v _ _ _ ?_);have hxx:=hx x (by simp);refine af (u1 (v:=v) ahg hw hxx.1 h1 hxx.2.1 hxx.2.2) (fun _ s1 z0=>?_) fun _ _ e=>e;obtain ⟨k1,H1⟩:=z0;exact af (ih (st:=st.withRho ((x,d)::st.ρ)) (fun i f x a b=>hf (i+1) f x a b) (cJ hl) (cJ VV) h2 (fun y hy=>hx y (av _ hy)) H1 k1.ok) (fun _ s2 z1=>by obtain ⟨k2,H2⟩:=z1;exact ⟨k1.RQ k2,H2⟩) fun _ _ e=>e
theorem sC:∀ (xps:List (Str×Pos)),assignEach (xps.map fun p=>eA p.1 p.2) env=xps.map fun p=>(false,assign (.Name p.1 p.2) env):=by iterate 0 intro xps;induction xps with | nil=>exact rfl | cons p r Qo=>rw [aB,aB,<-Qo];rfl
theorem q7:∀ {xps:List (Str×Pos)} {k:Nat} {p:Pos},oV (.Tuple (xps.map fun p=>eA p.1 p.2) k p)=xps.map (·.1):=by iterate 3 show (xps.map fun p=>eA p.1 p.2).filterMap _=_;rw [dy];induction xps with | nil=>rfl | cons x r ih=>exact congrArg (x.1::·) ih
theorem Ct:∀ {d:D} {ds:List D} (h:Kv d=some ds),d= .tup ds\/d= .lst ds:=by iterate 3
 cases d<;>cases h
 ·exact .inl rfl
 ·exact .inr rfl
theorem qJ:∀ {t:Expr} {d:D} {ρ Sh:Qr} (e:bn t d ρ=some Sh),(∃ x p,t= .Name x p/\Sh=(x,d)::ρ)\/∃ (xps:List (Str×Pos)) (ds:List D) (k:Nat) (p:Pos),t= .Tuple (xps.map fun p:Str×Pos=>eA p.1 p.2) k p/\(d= .tup ds\/d= .lst ds)/\xps.length=ds.length/\Sh=qv (xps.map (·.1)) ds ρ:=by iterate 5 cases t with | Name x p=>replace e:some _=some Sh:=e;cases e;exact .inl ⟨_,_,rfl,rfl⟩ | Tuple ts k p=>obtain ⟨ds,h1,e⟩:=bi e;obtain ⟨xps,rfl,h2,h3⟩:=xj e;exact .inr ⟨xps,_,_,_,rfl,Ct h1,h2,h3⟩ | _=>exact nomatch (show none=some Sh from e)
theorem um:∀ {t:Expr} {d:D} {v:ag} {Sh:Qr} {Y:List Addr} (hA:A.handled=none) (e:bn t d st.ρ=some Sh) (hx:∀ x∈oV t,pP sc x=true/\oS st x=true/\Q3 sc env Y x) (r:Rd J W.F W.as d v) (ahg:Qq J W s.heap sc st env ow) (hw:Qs J W s),aD (aC P0 J.w) A (assign t env v) (fun _ s'=>Qp J Y W s W s'/\Qq J W s'.heap sc (st.withRho Sh) env ow) (fun _ _=>False) s:=by iterate 11
 rcases qJ e with ⟨x,p,rfl,rfl⟩ | ⟨xps,ds,k,p,rfl,hd,hl,rfl⟩
 ·have:=hx x (show x∈[x] from ej.mpr rfl);exact cQ (u1 ahg hw this.1 r this.2.1 this.2.2)
 ·rw [nY];refine ae (bt ?_);unfold unpack;rw [sC];have RE:(xps.map fun p=>(false,assign (.Name p.1 p.2) env)).findIdx? (·.1)=none:=by
   rw [jZ];intro x hx;obtain ⟨p,_,rfl⟩:=aH.mp hx;rfl
  rw [RE];refine ae (bu (af (zi hA hd r hw (by simpa using hl)) (fun vs s1 z2=>?_) fun _ _ e=>e));obtain ⟨r1,k1⟩:=z2;rw [q7] at hx;refine af (tV (xs:=xps.map (·.1)) (ds:=ds) (st:=st) (fun i f x a b v Q E s q=>?_) (by simp) (by simpa using hl) r1 hx (ahg.QG k1) k1.ok) (fun _ s2 z3=>by obtain ⟨k2,H2⟩:=z3;exact ⟨k1.Sy k2,H2⟩) fun _ _ e=>e;simp only [b7,b8,ba] at a b;obtain ⟨q1,e1,rfl⟩:=a;obtain ⟨q2,e2,rfl⟩:=b;rw [e1] at e2;cases e2;exact cQ q
theorem Bv:∀ {Y:List Addr} {xps:List (Str×Pos)} {ds:List D} {d:D} {v:ag} (hA:A.handled=none) (hd:d= .tup ds\/d= .lst ds) (hl:xps.length=ds.length) (Ug:db (xps.map (·.1))=true) (hx:∀ x∈xps.map (·.1),pP sc x=true/\oS st x=true/\Q3 sc env Y x) (r:Rd J W.F W.as d v) (ahg:Qq J W s.heap sc st env ow) (hw:Qs J W s),aD (aC P0 J.w) A (ku v (xps.map (·.1)).length none) (fun items Q9=>aD (aC P0 J.w) A (assignInOrder ((xps.map (·.1)).reverse.map fun n=>bindName env n) items.reverse)
   (fun _ s'=>Qp J Y W s W s'/\Qq J W s'.heap sc (st.withRho (qv (xps.map (·.1)) ds st.ρ)) env ow) (fun _ _=>False) Q9) (fun _ _=>False) s:=by iterate 13
 refine af (zi hA hd r hw (by simpa using hl)) (fun vs s1 z4=>?_) fun _ _ e=>e;obtain ⟨r1,k1⟩:=z4;have r2:Qt J W.F W.as ds.reverse vs.reverse:=Qt.of_get (by simp [r1.length]) fun i d v h1 h2=>by
  have hi:i<ds.length:=by have:=(ak.mp h1).1;simpa using this
  have l:=r1.length;rw [bP hi] at h1;rw [bP (by omega),l] at h2;obtain ⟨v',h3,h4⟩:=r1.get h1;rw [h3] at h2;cases h2;exact h4
 refine af (tV (xs:=(xps.map (·.1)).reverse) (ds:=ds.reverse) (st:=st) (fun i f x a b v Q E s q=>?_) (by simp) (by simpa using hl) r2 (fun x hm=>hx x (dm.mp hm)) (ahg.QG k1) k1.ok)
  (fun _ s2 ⟨k2,H2⟩=>⟨k1.Sy k2,H2.congr (fun x d e=>?_) rfl⟩) fun _ _ e=>e
 ·rw [b8,ba] at a;obtain ⟨y,e1,rfl⟩:=a;rw [e1] at b;cases b;exact wpAny_bindName q
 ·unfold varD St.withRho at e ⊢;cases q:sc.names.lookup x with
  | none=>rw [q] at e;cases e
  | some k=>rw [q] at e;cases k<;>simp only at e ⊢ <;>first | exact e | (rw [A4 Ug (by simpa using hl)];exact e) | cases e
end
noncomputable def uz (J:Cx) (W1:Wd) (s1:ah) (d:Lake.D) (g:G) (acc:ag) (C:Addr) (r:iy) (s':ah):Prop:=
 r= .ok .next/\∃ W',Qp J [] W1 s1 W' s'/\W'.H=g/\Rd J W'.F W'.as d acc/\Apart J W' s'.heap C/\s1.heap.get? C=none/\∃ m,s'.heap.Ns C m
noncomputable def zI (J:Cx) (A:bf) (W:Wd) (s:ah) (e:Expr) (Qm:aX) (env:Env) (pos:Pos) (QF first:Sem ag) (d:D) (g:G):Prop:=
 ∀ (use:Option (ag->Sem Unit)) (Q:ag->ah->Prop),(∀ W1 s1,Qp J [] W s W1 s1->∀ acc C s',uz J W1 s1 d g acc C (.ok .next) s'->compPost (aC P0 J.w) A (fun _ _=>False) use Q acc C (.ok .next) s')->
  aD (aC P0 J.w) A (lJ e Qm env pos QF false first use) Q (fun _ _=>False) s
structure Ok (J:Cx) (n:Nat):Prop where
 comp:∀ {sc st e g d g' env ow A W s Qm pos QF first},ceE P0 n sc st e g=some (d,g')->W.H=g->Qs J W s->Qq J W s.heap sc st env ow->Qx n A->vY env e=some (Qm,pos,QF,first)->zI J A W s e Qm env pos QF first d g'
 e:∀ {sc st e g d g' env ow A W s},ceE P0 n sc st e g=some (d,g')->W.H=g->Qs J W s->Qq J W s.heap sc st env ow->Qx n A->Ex J A (eval e env) [] W s (li J d g')
 t:∀ {sc st e g b g' env ow A W s},ceT P0 n sc st e g=some (b,g')->W.H=g->Qs J W s->Qq J W s.heap sc st env ow->Qx n A->Ex J A (jT e env (eval e env)) [] W s (fun c W' _=>c=b/\W'.H=g')
 UO:∀ {sc st es g b g' env ow A W s},ceOr P0 n sc st es g=some (b,g')->W.H=g->Qs J W s->Qq J W s.heap sc st env ow->Qx n A->Ex J A (allTrue .Or es env) [] W s (fun c W' _=>c=b/\W'.H=g')
 Tq:∀ {sc st es g b g' env ow A W s},ceAndT P0 n sc st es g=some (b,g')->W.H=g->Qs J W s->Qq J W s.heap sc st env ow->Qx n A->Ex J A (allTrue .And es env) [] W s (fun c W' _=>c=b/\W'.H=g')
 RV:∀ {sc st es g d g' pos env ow A W s},ceAnd P0 n sc st es g=some (d,g')->W.H=g->Qs J W s->Qq J W s.heap sc st env ow->Qx n A->Ex J A (boolOp pos .And (evalEach es env)) [] W s (li J d g')
 es:∀ {sc st es g ds g' pos env ow A W s},ceEs P0 n sc st es g=some (ds,g')->W.H=g->Qs J W s->Qq J W s.heap sc st env ow->Qx n A->
  (kC pos (eL es env)).any (·.1)=false/\es.length=ds.length/\Ex J A (eM (kC pos (eL es env))) [] W s (fun vs W' _=>W'.H=g'/\Qt J W'.F W'.as ds vs)
 ifs:∀ {sc st es g b g' env ow A W s},ceIfs P0 n sc st es g=some (b,g')->W.H=g->Qs J W s->Qq J W s.heap sc st env ow->Qx n A->
  Ex J A (forIn es true fun c r=>if r=true then do let ok <-jT c env (eval c env);pure (b9 ok) else pure (b9 r)) [] W s (fun c W' _=>c=b/\W'.H=g')
 opt:∀ {sc st o g i g' env ow A W s},ceOpt P0 n sc st o g=some (i,g')->W.H=g->Qs J W s->Qq J W s.heap sc st env ow->Qx n A->Ex J A (evalPart o env) [] W s (fun v W' _=>W'.H=g'/\RP i v)
section
variable {J:Cx} {A:bf} {E:ag->ah->Prop} {R:iy->ah->Prop} {s:ah}
theorem EM:∀ {elt target iter:Expr} {ifs:List Expr} {scope:aX} {pos:Pos} {it acc:ag} {env:Env} (I:Nat->ah->Prop) (turn:∀ n s,I n s->aD (aC P0 J.w) A (eF it) (fun r Ql=>match r with
   | none=>R (.ok .next) Ql
   | some v=>aD (aC P0 J.w) A (cH target it v) (fun _ Qu=>aD (aC P0 J.w) A (assign target env v) (fun _ Q9=>
     aD (aC P0 J.w) A (forIn ifs true fun c r=>if r=true then do let ok <-jT c env (eval c env);pure (b9 ok) else pure (b9 r)) (fun ok QP=>if ok=true then aD (aC P0 J.w) A (eval elt env) (fun x RS=>
      aD (aC P0 J.w) A (call (.builtin "list.append") [acc,x]) (fun _ SF=>∃ m,m<n/\I m SF) (fun _ _=>False) RS) (fun _ _=>False) QP
      else ∃ m,m<n/\I m QP) (fun _ _=>False) Q9)
     (fun _ _=>False) Qu) (fun _ _=>False) Ql) (fun _ _=>False) s) (n:Nat) (h:I n s),bQ (aC P0 J.w) A (.compLoop (.ListComp elt [⟨target,iter,ifs,0⟩] scope pos) 0 it acc env) R s:=by iterate 13
 refine jU rfl I (fun n s hI=>?_) n h;show aD _ A ((kf (.ListComp elt [⟨target,iter,ifs,0⟩] scope pos) 0 it acc env).onRaise (fun x=>do gW x env;dY x)) _ _ s;refine kq ?_;rw [compTurn_list];refine ae (bt (ae (af (turn n s hI) (fun r Ql Q5=>?_) fun _ _ h'=>h'.elim)));cases r with
 | none=>exact ay Q5
 | some v=>refine ae (af Q5 (fun _ Qu SM=>?_) fun _ _ h'=>h'.elim);refine ae (af SM (fun _ Q9 Ry=>?_) fun _ _ h'=>h'.elim);refine ae (af Ry (fun okb QP RX=>?_) fun _ _ h'=>h'.elim);cases okb with | false=>exact ay ⟨rfl,RX⟩ | true=>exact ae (ae (af RX (fun x RS S4=>ae (af S4 (fun _ SF S3=>ay (ay ⟨rfl,S3⟩)) fun _ _ h'=>h'.elim)) fun _ _ h'=>h'.elim))
theorem DZ:∀ {kx vx target iter:Expr} {ifs:List Expr} {scope:aX} {pos:Pos} {it:ag} {D:Addr} {env:Env} (I:Nat->ah->Prop) (turn:∀ n s,I n s->aD (aC P0 J.w) A (eF it) (fun r Ql=>match r with
   | none=>R (.ok .next) Ql
   | some v=>aD (aC P0 J.w) A (cH target it v) (fun _ Qu=>aD (aC P0 J.w) A (assign target env v) (fun _ Q9=>
     aD (aC P0 J.w) A (forIn ifs true fun c r=>if r=true then do let ok <-jT c env (eval c env);pure (b9 ok) else pure (b9 r)) (fun ok QP=>
      if ok=true then aD (aC P0 J.w) A (eval kx env) (fun kv RS=>aD (aC P0 J.w) A (eval vx env) (fun vv SF=>aD (aC P0 J.w) A (dictSet D kv vv) (fun _ X6=>∃ m,m<n/\I m X6) (fun _ _=>False) SF) (fun _ _=>False) RS) (fun _ _=>False) QP
      else ∃ m,m<n/\I m QP) (fun _ _=>False) Q9) (fun _ _=>False) Qu) (fun _ _=>False) Ql) (fun _ _=>False) s) (n:Nat) (h:I n s),bQ (aC P0 J.w) A (.compLoop (.DictComp kx vx [⟨target,iter,ifs,0⟩] scope pos) 0 it (.ref D) env) R s:=by iterate 14
 refine jU rfl I (fun n s hI=>?_) n h;show aD _ A ((kf (.DictComp kx vx [⟨target,iter,ifs,0⟩] scope pos) 0 it (.ref D) env).onRaise (fun x=>do gW x env;dY x)) _ _ s;refine kq ?_;rw [compTurn_dict];refine ae (bt (ae (af (turn n s hI) (fun r Ql Q5=>?_) fun _ _ h'=>h'.elim)));cases r with
 | none=>exact ay Q5
 | some v=>refine ae (af Q5 (fun _ Qu SM=>?_) fun _ _ h'=>h'.elim);refine ae (af SM (fun _ Q9 Ry=>ae (af Ry (fun ok QP RX=>?_) fun _ _ h'=>h'.elim)) fun _ _ h'=>h'.elim);cases ok with | false=>exact ay ⟨rfl,RX⟩ | true=>exact ae (ae (af RX (fun kv RS S4=>ae (bu (af S4 (fun vv SF S3=>ae (bt (bu (af S3 (fun _ X6 aaE=>ay ⟨rfl,aaE⟩) fun _ _ h'=>h'.elim)))) fun _ _ h'=>h'.elim))) fun _ _ h'=>h'.elim))
end
noncomputable def p8 (env:Env):List (Str×eN)->List (Str×Addr)->List (Str×Addr)
| [],acc=>acc
| (n,k)::r,acc=>if k== .free then p8 env r ((n,(env.cells.lookup n).getD 0)::acc) else p8 env r acc
theorem uK:∀ {env:Env},∀ (names:List (Str×eN)) (acc:List (Str×Addr)) (p:Str×Addr),p∈p8 env names acc->p∈acc\/((p.1,cb)∈names/\p.2=(env.cells.lookup p.1).getD 0):=by iterate 1
 intro names;induction names with
 | nil=>intro acc p h;exact .inl h
 | cons RA r Qo=>
  obtain ⟨n,k⟩:=RA;intro acc p h;dsimp only [p8] at h;split at h
  ·rename_i hk;have hk:k= .free:=by simpa using hk
   rcases Qo _ p h with h | h
   ·rcases aq.mp h with h | h
    ·subst h;subst hk;exact .inr ⟨by simp,rfl⟩
    ·exact .inl h
   ·exact .inr ⟨av _ h.1,h.2⟩
  ·rcases Qo _ p h with h | h
   ·exact .inl h
   ·exact .inr ⟨av _ h.1,h.2⟩
theorem BP:∀ {env:Env} {x:Str},∀ (names:List (Str×eN)) (acc:List (Str×Addr)),((x,cb)∈names\/(acc.lookup x).isSome=true)->((p8 env names acc).lookup x).isSome=true:=by iterate 2
 intro names;induction names with
 | nil=>
  intro acc h;rcases h with h | h
  ·simp at h
  ·exact h
 | cons RA r Qo=>
  obtain ⟨n,k⟩:=RA;intro acc h;dsimp only [p8];split
  ·rename_i hk;refine Qo _ ?_;rcases h with h | h
   ·rcases aq.mp h with h | h
    ·cases h;right;simp [aY]
    ·exact .inl h
   ·right;rw [aY];cases x==n<;>simp [h]
  ·rename_i hk;refine Qo _ ?_;rcases h with h | h
   ·rcases aq.mp h with h | h
    ·cases h;exact absurd rfl hk
    ·exact .inl h
   ·exact .inr h
theorem CB:∀ {env:Env},∀ (names:List (Str×eN)) (acc:List (Str×Addr)),(∀ x,(x,cb)∈names->∃ c,env.cells.lookup x=some c)->
  (forIn names acc fun x (cs:List (Str×Addr))=>if (x.2==cb)=true then do let c <-cellOf env x.1;pure (b9 ((x.1,c)::cs)) else pure (b9 cs))=(pure (p8 env names acc):Sem (List (Str×Addr))):=by iterate 1
 intro names;induction names with
 | nil=>intro acc _;(dsimp only [p8];simp only [jY])
 | cons RA r Qo=>
  obtain ⟨n,k⟩:=RA;intro acc h;rw [mG];dsimp only [p8];cases hk:k==cb with
  | true=>
   have hk':k= .free:=by simpa using hk
   obtain ⟨c,hc⟩:=h n (by rw [hk'];simp);have YR:cellOf env n=pure c:=by unfold cellOf;rw [hc]
   simp only [hk,if_true,YR,hc,gw];show (pure (b9 ((n,c)::acc)):Sem _) >>=_=_;exact (Qo ((n,c)::acc) fun x hx=>h x (av _ hx))
  | false=>simp only [hk,bX,if_false];exact (Qo acc fun x hx=>h x (av _ hx))
theorem sR:∀ {scope:aX} {env:Env} (h:∀ x,(x,cb)∈scope.names->∃ c,env.cells.lookup x=some c),eX scope env=pure (p8 env scope.names []):=by iterate 3 have:=CB (env:=env) scope.names [] h;simp only [eX];refine kR ?_ this;show (forIn scope.names [] _ >>=fun r=>pure r)=_;have e:∀ (m:Sem (List (Str×Addr))),(m >>=fun r=>pure r)=m:=fun m=>bind_pure m;rw [e]
theorem xZ:∀ {Qm:aX} {env:Env} (x:Str),(relabel Qm env).names.lookup x=(Qm.names.lookup x).map fun k=>if (k== .free&&env.scope.kind== .function&&env.kindOf x==some .cell)=true then .cell else k:=by iterate 3
 show (Qm.names.map _).lookup x=_;induction Qm.names with
 | nil=>rfl
 | cons p r ih=>
  obtain ⟨n,k⟩:=p;have key:∀ b:Bool,cG x ((if b=true then (n,fV) else (n,k))::(r.map fun (n,k)=>if (k== .free&&env.scope.kind== .function&&env.kindOf n==some .cell) then (n,.cell) else (n,k)))=
    match x==n with
    | true=>some (if b=true then .cell else k)
    | false=>cG x (r.map fun (n,k)=>if (k== .free&&env.scope.kind== .function&&env.kindOf n==some .cell) then (n,.cell) else (n,k)):=fun b=>by
   cases b
   ·show cG x ((n,k)::_)=_;rw [aY];cases x==n<;>rfl
   ·show cG x ((n,fV)::_)=_;rw [aY];cases x==n<;>rfl
  refine (key _).trans ?_;rw [aY];by_cases hx:x=n
  ·subst hx;simp only [beq_self_eq_true];rfl
  ·have:(x==n)=false:=by simpa using hx
   rw [this];exact ih
section
variable {J:Cx} {A:bf} {W:Wd} {s:ah} {sc Qm:aX} {st:St} {env:Env} {ow:List Addr}
structure Tt (sc Qm:aX):Prop where
 kind:Qm.kind= .function
 names:∀ x k,(x,k)∈Qm.names->Qm.names.lookup x=some k
 cell:∀ x,(x,fV)∉Qm.names
 free:∀ x,(x,cb)∈Qm.names->sc.names.lookup x=some .cell\/sc.names.lookup x=some .free
theorem FQ:∀ (h:yE sc Qm=true),Tt sc Qm:=by iterate 1
 unfold yE at h;rw [ai] at h;obtain ⟨h1,h2⟩:=h;have h2:=aj.mp h2;refine ⟨by simpa using h1,fun x k hm=>?_,fun x hm=>?_,fun x hm=>?_⟩
 ·have:=h2 _ hm;simp at this;exact this.1.1
 ·have:=h2 _ hm;simp at this
 ·have:=h2 _ hm;simp at this;exact this.2
theorem Tt.cf:∀ {x:Str} (hs:Tt sc Qm) (h:(x,cb)∈Qm.names),yA sc x=true:=by iterate 3 unfold yA;rcases hs.free x h with q | q<;>rw [q]
noncomputable def rD (Qm:aX) (env:Env) (C:Addr):Env:=
 {scope:=relabel Qm env,locals:=C,globals:=env.globals,cells:=p8 env Qm.names [],qual:=env.qual,func:=none,code:=env.code,frame:=env.frame,builtins:=env.builtins}
theorem zG:∀ (hs:Tt sc Qm) (ahg:Qq J W s.heap sc st env ow),eX Qm env=pure (p8 env Qm.names []):=by iterate 2 exact (sR fun x hx=>by obtain ⟨c,_,h,_⟩:=ahg.cells x (hs.cf hx);exact ⟨c,h⟩)
theorem sE:∀ {x:Str} {c:Addr} (hs:Tt sc Qm) (ahg:Qq J W s.heap sc st env ow) (h:(p8 env Qm.names []).lookup x=some c),(x,cb)∈Qm.names/\env.cells.lookup x=some c:=by iterate 5
 rcases uK Qm.names [] _ (al h) with q | q
 ·simp at q
 ·obtain ⟨c',_,e,_⟩:=ahg.cells x (hs.cf q.1);refine ⟨q.1,?_⟩;have:=q.2;simp only [e,gw] at this;rw [e,this]
theorem yH:∀ {x:Str} (hs:Tt sc Qm) (ahg:Qq J W s.heap sc st env ow) (h:(x,cb)∈Qm.names),∃ c,(p8 env Qm.names []).lookup x=some c/\env.cells.lookup x=some c:=by iterate 4 obtain ⟨c,hc⟩:=b6.mp (BP (env:=env) Qm.names [] (.inl h));exact ⟨c,hc,(sE hs ahg hc).2⟩
theorem Jl:∀ {x:Str} {d:D} (e:(st.comp sc Qm).up.lookup x=some d),varD sc st x=some d:=by iterate 3
 have h:=al e;unfold St.comp at h;obtain ⟨p,_,h2⟩:=ey.mp h;split at h2
 ·obtain ⟨d',h3,h4⟩:=ba.mp h2;cases h4;exact h3
 ·cases h2
theorem Gv:∀ {C:Addr} (hs:Tt sc Qm) (ahg:Qq J W s.heap sc st env ow) (hC:Apart J W s.heap C) (Y8:C∉am env) (hn:∃ m,s.heap.Ns C m),Qq J W s.heap Qm (st.comp sc Qm) (rD Qm env C) []:=by iterate 6
 have Uq:∀ x,(x,cb)∈Qm.names->env.kindOf x=some .cell\/env.kindOf x=some .free:=fun x hx=>by
  rcases hs.free x hx with q | q
  ·rcases ahg.kd x _ q with h | ⟨h,_⟩
   ·exact .inl h
   ·cases h
  ·rcases ahg.kd x _ q with h | ⟨_,h⟩
   ·exact .inr h
   ·exact .inl h
 have kd:∀ x,(rD Qm env C).kindOf x=(Qm.names.lookup x).map fun k=>if (k== .free&&env.scope.kind== .function&&env.kindOf x==some .cell)=true then .cell else k:=fun x=>xZ x
 have Up:∀ x,Qm.names.lookup x=some .free->(rD Qm env C).kindOf x=env.kindOf x:=fun x hx=>by rw [kd,hx,cY,ahg.kind];rcases Uq x (al hx) with q | q<;>rw [q]<;>rfl
 have WJ:∀ {x c},env.cells.lookup x=some c->c∈am env:=fun h=>av _ (aH.mpr ⟨_,al h,rfl⟩);exact {
  kind:=hs.kind
  glob:=ahg.glob
  bi:=ahg.bi
  kd:=fun x k e=>by
   by_cases hk:k= .free
   ·subst hk;rcases Uq x (al e) with q | q
    ·exact .inr ⟨rfl,(Up x e).trans q⟩
    ·exact .inl ((Up x e).trans q)
   ·left;rw [kd,e,cY];have:(k==cb)=false:=by simpa using hk
    simp [this]
  ns:=hn
  vars:=fun x d e=>by
   rcases zK e with ⟨q,e⟩ | ⟨_,e⟩ | ⟨_,e⟩
   ·have hx:=al q;obtain ⟨v,h1,h2⟩:=ahg.vars x d (Jl e);refine ⟨v,.inr ⟨(by rw [Up x q];exact Uq x hx),?_⟩,h2⟩;rcases h1 with ⟨h1,_⟩ | ⟨_,c,h3,h4⟩
    ·rcases Uq x hx with z | z<;>(rw [z] at h1;cases h1)
    ·obtain ⟨c',e1,e2⟩:=yH hs ahg hx;rw [h3] at e2;cases e2;exact ⟨c,e1,h4⟩
   ·simp [St.comp] at e
   ·simp [St.comp] at e
  cells:=fun x e=>by
   rcases CA e with q | q
   ·have hx:=al q;obtain ⟨c',e1,e2⟩:=yH hs ahg hx;obtain ⟨c,v,e3,e4⟩:=ahg.cells x (hs.cf hx);rw [e3] at e2;cases e2;exact ⟨_,v,e1,e4⟩
   ·exact absurd (al q) (hs.cell x)
  inj:=fun x y c h1 h2=>ahg.inj x y c (sE hs ahg h1).2 (sE hs ahg h2).2
  Rx:=fun x c h1 q=>Y8 (by have z:=WJ (sE hs ahg h1).2;rw [q] at z;exact z)
  apart:=fun a ha=>by
   rw [aS] at ha;rcases aq.mp ha with rfl | ha
   ·exact ⟨.inl hC.1,hC.2⟩
   ·obtain ⟨p,hp,rfl⟩:=aH.mp ha;rcases uK Qm.names [] p hp with q | q
    ·simp at q
    ·obtain ⟨c,_,e,_⟩:=ahg.cells p.1 (hs.cf q.1);have ZH:p.2=c:=by rw [q.2,e];rfl
     rw [ZH];have z:=ahg.apart c (aE _ (WJ e));refine ⟨z.1.imp id fun z1=>⟨av _ (ZH▸ha),fun w=>Y8 (by have:=WJ e;rw [w] at this;exact this),fun y hy=>?_⟩,z.2⟩;have y1:=sE hs ahg hy;rw [Up y (hs.names _ _ y1.1)];exact z1.2.2 y y1.2
  own:=fun x o e=>by cases e
  Rj:=fun x o e=>by cases e}
theorem BJ:∀ {C:Addr} (hs:Tt sc Qm) (ahg:Qq J W s.heap sc st env ow),∀ a∈am (rD Qm env C),a=C\/a∈am env:=by iterate 3
 exact (fun a ha=>by
 rcases aq.mp ha with rfl | ha
 ·exact .inl rfl
 ·obtain ⟨p,hp,rfl⟩:=aH.mp ha;rcases uK Qm.names [] p hp with q | q
  ·simp at q
  ·obtain ⟨c,_,e,_⟩:=ahg.cells p.1 (hs.cf q.1);have:p.2=c:=by rw [q.2,e];rfl
   rw [this];exact .inr (av _ (aH.mpr ⟨_,al e,rfl⟩)))
end
theorem CR:∀ {k i:Int} {t:Tok},∀ {ws:List (Int×ag)} {QC:List (Int×Int)},Sb ws QC->(ws.map (·.1)).Nodup->Sb (mf ws k (.int i t)) (put k i QC):=by iterate 3
 intro ws;induction ws with
 | nil=>intro _ h _;dsimp only [Sb] at h;subst h;(dsimp only [put,Sb];simp only [mf,List.any_nil,bX,if_false,a9]);exact ⟨_,_,_,rfl,rfl,rfl⟩
 | cons RA r Qo=>
  obtain ⟨j,v⟩:=RA;intro _ h hn;dsimp only [Sb] at h;obtain ⟨a,u,r',rfl,rfl,h⟩:=h;simp only [aB,cB] at hn;by_cases e:j=k
  ·subst e;have TH:∀ kv∈r,¬ kv.1=j:=fun kv hm q=>hn.1 (aH.mpr ⟨kv,hm,q⟩);have h1:mf ((j,dZ a u)::r) j (.int i t)=(j,.int i t)::r:=by
    simp only [mf,nv,decide_true,Bool.true_or,if_true,aB];congr 1;exact map_eq_self fun kv hm=>if_neg (TH kv hm)
   rw [h1];(dsimp only [put,Sb];simp only [if_true]);exact ⟨_,_,_,rfl,rfl,h⟩
  ·have ih:=Qo h hn.2;have h1:mf ((j,dZ a u)::r) k (.int i t)=(j,.int a u)::mf r k (.int i t):=by
    unfold mf;simp only [nv,e,decide_false,Bool.false_or,aB,if_false];split<;>rfl
   rw [h1];(dsimp only [put,Sb];simp only [e,if_false]);exact ⟨_,_,_,rfl,rfl,ih⟩
noncomputable def Ob:OW->D
| .lst xs=> .lst xs
| .QH QC=> .QH QC
section
variable {J:Cx} {A:bf} {W W0:Wd} {s s0:ah} {X:List Addr} {sc Qm:aX} {st:St} {env:Env} {ow:List Addr}
theorem v3:∀ {o:OW} {a:Addr} (tr:Qp J X W0 s0 W s) (hn:s0.heap.get? a=none) (ap:Apart J W s.heap a) (h:QS J W s.heap o a),∃ ob,s.heap.get? a=some ob/\Qp J X W0 s0 (W.Q8 a ob) s/\Rd J (W.Q8 a ob).F (W.Q8 a ob).as (Ob o) (.ref a):=by iterate 6
 cases o with
 | lst xs=>
  obtain ⟨hl,vs,⟨ob,n,e,c,d,dt⟩,r⟩:=h;have k:=Qp.Q8 tr e hn ap.2.1 ap.2.2.1;refine ⟨ob,e,k,?_⟩;dsimp only [Ob,Rd];have le:PM.le W.F (W.Q8 a ob).F:=fun b o' e'=>by
   show (if b=a then some ob else W.F b)=some o';by_cases hb:b=a
   ·subst hb;rw [ap.1] at e';cases e'
   ·rw [if_neg hb];exact e'
  exact ⟨hl,a,vs.toList,rfl,⟨ob,n,oT _ _ _,c,d,by simpa using dt⟩,r.mono le (Pre.refl _)⟩
 | QH QC=>obtain ⟨hl,hs,ws,⟨ob,es,ep,e,r⟩,q⟩:=h;have k:=Qp.Q8 tr e hn ap.2.1 ap.2.2.1;refine ⟨ob,e,k,?_⟩;dsimp only [Ob,Rd];exact ⟨hl,a,rfl,hs,ob,ws,ep,oT _ _ _,fun h he=>⟨ob,es,he,r⟩,q⟩
theorem Apart.Q8:∀ {a b:Addr} {ob:Obj} (h:Apart J W s.heap a) (ne:a≠b),Apart J (W.Q8 b ob) s.heap a:=by iterate 5 exact (⟨by show (if a=b then some ob else W.F a)=none;rw [if_neg ne];exact h.1,h.2.1,h.2.2.1,h.2.2.2⟩)
structure CL (J:Cx) (W1:Wd) (s1:ah) (Qm:aX) (cst:St) (Qv:Env) (Is:List Addr) (D:Addr) (St:Wd->Heap->Prop) (o:OW) (W:Wd) (s:ah):Prop where
 tr:Qp J [] W1 s1 W s
 er:Qq J W s.heap Qm cst Qv []
 it:St W s.heap
 QY:∀ I∈Is,Apart J W s.heap I
 RJ:Apart J W s.heap D
 acc:QS J W s.heap o D
structure CK (J:Cx) (W1:Wd) (s1:ah) (Qv:Env) (Is:List Addr) (D:Addr):Prop where
 RT:Qs J W1 s1
 nI:∀ I∈Is,s1.heap.get? I=none
 nD:s1.heap.get? D=none
 nC:s1.heap.get? Qv.locals=none
 ID:∀ I∈Is,I≠D
 IC:∀ I∈Is,I∉am Qv
 DC:D∉am Qv
variable {W1:Wd} {s1:ah} {cst:St} {Qv:Env} {Is:List Addr} {I D:Addr} {St:Wd->Heap->Prop} {o:OW}
theorem CL.step:∀ {W':Wd} {s':ah} (c:CL J W1 s1 Qm cst Qv Is D St o W s) (t:Qp J [] W s W' s') (hSt:St W s.heap->PM.le W.F W'.F->Pre W.as W'.as->(∀ I∈Is,∀ o,s.heap.get? I=some o->s'.heap.get? I=some o)->St W' s'.heap),CL J W1 s1 Qm cst Qv Is D St o W' s':=by iterate 5
 exact {
  tr:=c.tr.Qn t
  er:=c.er.QG t
  it:=hSt c.it t.le t.as (fun I hI=>(c.QY I hI).at t (by simp))
  QY:=fun I hI=>(c.QY I hI).keep t
  RJ:=c.RJ.keep t
  acc:=c.acc.keep t.le t.as (c.RJ.at t (by simp))}
noncomputable abbrev uJ (Is:List Addr) (St:Wd->Heap->Prop):Prop:=∀ (W W':Wd) (h h':Heap),St W h->PM.le W.F W'.F->Pre W.as W'.as->(∀ I∈Is,∀ o,h.get? I=some o->h'.get? I=some o)->St W' h'
theorem CL.next:∀ {St':Wd->Heap->Prop} {h':Heap} {tk:Nat} (K:CK J W1 s1 Qv Is D) (c:CL J W1 s1 Qm cst Qv Is D St o W s) (hm:I∈Is) (k:∀ b o,b≠I->s.heap.get? b=some o->h'.get? b=some o) (hI:∃ o,h'.get? I=some o) (hSt:St' W h'),CL J W1 s1 Qm cst Qv Is D St' o W {s with heap:=h',toks:=tk}:=by iterate 9
 exact {
  tr:=c.tr.RB K.RT (K.nI I hm) ⟨(c.QY I hm).1,(c.QY I hm).2.1,(c.QY I hm).2.2.1⟩ k
  er:=c.er.Tw (tk:=tk) (by simpa using K.IC I hm) k
  it:=hSt
  QY:=fun ahf hJ=>⟨(c.QY ahf hJ).1,(c.QY ahf hJ).2.1,(c.QY ahf hJ).2.2.1,by
   by_cases q:ahf=I
   ·rw [q];exact hI
   ·obtain ⟨o,e⟩:=(c.QY ahf hJ).2.2.2;exact ⟨o,k _ _ q e⟩⟩
  RJ:=⟨c.RJ.1,c.RJ.2.1,c.RJ.2.2.1,(by obtain ⟨o,e⟩:=c.RJ.2.2.2;exact ⟨o,k _ _ (dz (K.ID I hm)) e⟩)⟩
  acc:=c.acc.keep (PM.le.refl _) (Pre.refl _) fun o e=>k _ _ (dz (K.ID I hm)) e}
theorem CL.target:∀ {t:Expr} {d:Lake.D} {v:ag} {ρ:Qr} (K:CK J W1 s1 Qv Is D) (hA:A.handled=none) (hk:uJ Is St) (c:CL J W1 s1 Qm cst Qv Is D St o W s) (Rn:cst.own=none) (e:bn t d cst.ρ=some ρ) (ht:tM Qm t=true) (hl:∀ x c,Qv.cells.lookup x=some c->True) (r:Rd J W.F W.as d v),aD (aC P0 J.w) A (assign t Qv v) (fun _ s'=>CL J W1 s1 Qm (cst.withRho ρ) Qv Is D St o W s') (fun _ _=>False) s:=by iterate 13
 have Ti:∀ x∈oV t,Qm.names.lookup x=some .local:=fun x hx=>by unfold tM at ht;rw [ai] at ht;have:=aj.mp ht.1 x hx;simpa using this
 refine af (um (Y:=[Qv.locals]) hA e (fun x hx=>⟨?_,?_,?_,?_⟩) r c.er c.tr.ok) (fun _ s' ⟨k,er⟩=>?_) fun _ _ e=>e
 ·unfold pP;rw [Ti x hx]
 ·unfold oS;rw [Rn]
 ·intro _;simp
 ·intro q;rw [Ti x hx] at q;cases q
 ·have hI:∀ I∈Is,I∉[Qv.locals]:=fun I hm q=>K.IC I hm (by simp at q;rw [q];simp [am]);have hD:D∉[Qv.locals]:=fun q=>K.DC (by simp at q;rw [q];simp [am]);exact {
   tr:=c.tr.trans k (by intro a ha;simp at ha;subst ha;exact .inr K.nC)
   er:=er
   it:=hk _ _ _ _ c.it k.le k.as (fun I hm=>(c.QY I hm).at k (hI I hm))
   QY:=fun I hm=>(c.QY I hm).keep k
   RJ:=c.RJ.keep k
   acc:=c.acc.keep k.le k.as (c.RJ.at k hD)}
theorem CL.grow:∀ {o':OW} {h':Heap} {tk:Nat} (K:CK J W1 s1 Qv Is D) (hk:uJ Is St) (c:CL J W1 s1 Qm cst Qv Is D St o W s) (sb:bW D s.heap h') (hD:∃ o,h'.get? D=some o) (ho:QS J W h' o' D),CL J W1 s1 Qm cst Qv Is D St o' W {s with heap:=h',toks:=tk}:=by iterate 9
 exact (have k:∀ b o,b≠D->s.heap.get? b=some o->h'.get? b=some o:=fun b o hb e=>(sb.2 b hb).trans e
 {tr:=c.tr.RB K.RT K.nD ⟨c.RJ.1,c.RJ.2.1,c.RJ.2.2.1⟩ k
  er:=c.er.Tw (tk:=tk) (by simpa using K.DC) k
  it:=hk _ _ _ _ c.it (PM.le.refl _) (Pre.refl _) fun I hm o e=>k _ _ (K.ID I hm) e
  QY:=fun I hm=>⟨(c.QY I hm).1,(c.QY I hm).2.1,(c.QY I hm).2.2.1,(by obtain ⟨o,e⟩:=(c.QY I hm).2.2.2;exact ⟨o,k _ _ (K.ID I hm) e⟩)⟩
  RJ:=⟨c.RJ.1,c.RJ.2.1,c.RJ.2.2.1,hD⟩
  acc:=ho})
theorem CL.forget:∀ {XA:Lake.St} (c:CL J W1 s1 Qm cst Qv Is D St o W s) (hv:∀ x d,varD Qm XA x=some d->varD Qm cst x=some d) (ho:XA.own=cst.own),CL J W1 s1 Qm XA Qv Is D St o W s:=by iterate 4 exact ({c with er:=c.er.congr hv ho})
theorem CL.finish:∀ {h':Heap} {tk:Nat} {g:G} (K:CK J W1 s1 Qv Is D) (c:CL J W1 s1 Qm cst Qv Is D St o W s) (hg:W.H=g) (hm:I∈Is) (k:∀ b o,b≠I->s.heap.get? b=some o->h'.get? b=some o),uz J W1 s1 (Ob o) g (.ref D) Qv.locals (.ok .next) {s with heap:=h',toks:=tk}:=by iterate 8
 have t1:=c.tr.RB (tk:=tk) K.RT (K.nI I hm) ⟨(c.QY I hm).1,(c.QY I hm).2.1,(c.QY I hm).2.2.1⟩ k;have RJ:Apart J W h' D:=⟨c.RJ.1,c.RJ.2.1,c.RJ.2.2.1,(by obtain ⟨o,e⟩:=c.RJ.2.2.2;exact ⟨o,k _ _ (dz (K.ID I hm)) e⟩)⟩
 obtain ⟨ob,e,t2,r⟩:=v3 t1 K.nD RJ (c.acc.keep (PM.le.refl _) (Pre.refl _) fun o e=>k _ _ (dz (K.ID I hm)) e);obtain ⟨m,Sf⟩:=c.er.ns;have ZX:Qv.locals≠I:=fun q=>K.IC I hm (by rw [<-q];simp [am]);have hCD:Qv.locals≠D:=fun q=>K.DC (by rw [<-q];simp [am]);have apC:Apart J W h' Qv.locals:=by have z:=c.er.apart Qv.locals (by simp [am]);exact ⟨c.er.WA,z.2.1,z.2.2.1,(by obtain ⟨o,e⟩:=z.2.2.2;exact ⟨o,k _ _ ZX e⟩)⟩
 refine ⟨rfl,_,t2,hg,r,?_,K.nC,m,Ns.keep Sf fun o e=>k _ _ ZX e⟩;exact Apart.Q8 (s:={s with heap:=h',toks:=tk}) apC hCD
theorem KB:∀ {xs:List Lake.D} {a:Addr} {x:Lake.D} {v:ag} {h':Heap} {vs:Array ag} (hl:(xs++[x]).length<=lim) (r:Qt J W.F W.as xs vs.toList) (hx:Rd J W.F W.as x v) (p:bS h' a (vs.push v)),QS J W h' (.lst (xs++[x])) a:=by iterate 10 exact (⟨hl,_,p,by rw [gh];exact r.append (Qt.one hx)⟩)
end
noncomputable def Bn (n:Nat) (Qm:aX) (cst:St) (t:Expr) (ifs:List Expr) (elt:Expr) (step:D->List D->G->Option (List D×G×Option D)):Prop:=
 ∀ d acc g r,step d acc g=some r->∃ ρ b g1,bn t d cst.ρ=some ρ/\ceIfs P0 n Qm (cst.withRho ρ) ifs g=some (b,g1)/\
  ((b=true/\∃ x g2,ceE P0 n Qm (cst.withRho ρ) elt g1=some (x,g2)/\r=(acc++[x],g2,none))\/(b=false/\r=(acc,g1,none)))
theorem pJ:∀ {σ:Type} {step:D->σ->G->Option (σ×G×Option D)} {d:D} {ds:List D} {a:σ} {g:G} {r:σ×G×Option D} (h:iterLoop step (d::ds) a g=some r),(∃ a' g',step d a g=some (a',g',none)/\iterLoop step ds a' g'=some r)\/(∃ a' g' x,step d a g=some (a',g',some x)/\r=(a',g',some x)):=by iterate 8 obtain ⟨⟨a',g',x⟩,e,h⟩:=bi h;cases x with | none=>exact .inl ⟨a',g',e,h⟩ | some x=>cases h;exact .inr ⟨a',g',x,e,rfl⟩
theorem Fb:∀ {n:Nat} {Qm:aX} {cst:St} {t:Expr} {ifs:List Expr} {elt:Expr} {step:D->List D->G->Option (List D×G×Option D)} (hs:Bn n Qm cst t ifs elt step),∀ {ds:List D} {acc:List D} {g:G} {QN:List D} {gF:G} {rr:Option D},iterLoop step ds acc g=some (QN,gF,rr)->acc.length<=QN.length/\rr=none:=by iterate 8
 intro ds;induction ds with
 | nil=>intro acc g QN gF rr h;cases h;exact ⟨bN _,rfl⟩
 | cons d ds ih=>
  intro acc g QN gF rr h;rcases pJ h with ⟨a',g',e,h⟩ | ⟨a',g',x,e,h⟩
  ·have ih:=ih h;obtain ⟨ρ,b,g1,_,_,h3⟩:=hs _ _ _ _ e;rcases h3 with ⟨_,y,g2,_,h4⟩ | ⟨_,h4⟩
   ·cases h4;rw [aw] at ih;exact ⟨bw (d9 _ _) ih.1,ih.2⟩
   ·cases h4;exact ih
  ·obtain ⟨ρ,b,g1,_,_,h3⟩:=hs _ _ _ _ e;rcases h3 with ⟨_,y,g2,_,h4⟩ | ⟨_,h4⟩<;>cases h4
section
variable {J:Cx} {A:bf} {W W1:Wd} {s s1:ah} {Qm:aX} {cst:St} {Qv:Env} {I Da:Addr} {n:Nat}
theorem pQ:∀ {x:Str} {d:D} {ρ:Qr} (UP:cst.ρ=[]) (e:varD Qm cst x=some d),varD Qm (cst.withRho ρ) x=some d:=by iterate 5 unfold varD at e ⊢;unfold St.withRho;cases q:Qm.names.lookup x with | none=>rw [q] at e;cases e | some k=>rw [q,UP] at e;cases k<;>simp at e ⊢;exact e
theorem BG:∀ {t it elt:Expr} {ifs:List Expr} {pos:Pos} {step:D->List D->G->Option (List D×G×Option D)} {QN:List D} {gF:G} {rr:Option D} {St:List D->Wd->Heap->Prop} {ds acc:List D} {g:G} (ok:Ok J n) (K:CK J W1 s1 Qv [I] Da) (hA:Qx n A) (hs:Bn n Qm cst t ifs elt step) (UP:cst.ρ=[]) (Rn:cst.own=none) (ht:tM Qm t=true) (hit:QT J I St) (QX:QN.length<=lim) (QL:iterLoop step ds acc g=some (QN,gF,rr)) (c:CL J W1 s1 Qm cst Qv [I] Da (St ds) (.lst acc) W s) (hg:W.H=g),bQ (aC P0 J.w) A (.compLoop (.ListComp elt [⟨t,it,ifs,0⟩] Qm pos) 0 (.ref I) (.ref Da) Qv) (uz J W1 s1 (.lst QN) gF (.ref Da) Qv.locals) s:=by iterate 25
 refine EM (fun k s'=>∃ W' Rh QU g',k=Rh.length+1/\iterLoop step Rh QU g'=some (QN,gF,rr)/\CL J W1 s1 Qm cst Qv [I] Da (St Rh) (.lst QU) W' s'/\W'.H=g') ?_ (ds.length+1) ⟨W,ds,acc,g,rfl,QL,c,hg⟩;rintro k s' ⟨W',Rh,QU,g',rfl,QL,c,hg⟩;have hk:uJ [I] (St Rh):=fun W W' h h' a b c d=>hit.keep _ _ _ _ _ a b c (d I (by simp));cases Rh with
 | nil=>cases QL;exact hit.done A W' s' _ _ hA.1 c.it c.tr.ok.sub (c.QY I (by simp)).1 fun h' tk kk=>c.finish (o:= .lst _) K hg (by simp) kk
 | cons d QI=>
  rcases pJ QL with ⟨a',V8,e,Rq⟩ | ⟨a',V8,x,e,_⟩
  ·obtain ⟨ρ,b,g1,e1,e2,e3⟩:=hs _ _ _ _ e;refine hit.next A W' s' d QI _ _ hA.1 c.it c.tr.ok.sub (c.QY I (by simp)).1 fun v h' tk rv RE hI kk lg=>?_;have c1:=c.next (St':=St QI) (tk:=tk) K (by simp) kk hI RE;have Sz:uJ [I] (St QI):=fun W W' h h' a b c d=>hit.keep _ _ _ _ _ a b c (d I (by simp));refine lg A t _ _ _ rfl ?_;refine af (c1.target K hA.1 Sz Rn e1 ht (fun _ _ _=>trivial) rv) (fun _ s2 c2=>?_) fun _ _ f=>f;refine Ex.into (ok.ifs e2 hg c2.tr.ok c2.er hA) fun bb W3 s3 k3 z0=>?_;obtain ⟨hb,Sk⟩:=z0;subst hb;have c3:=c2.step k3 fun a b c d=>Sz _ _ _ _ a b c d;rcases e3 with ⟨hb,y,g2,e4,e5⟩ | ⟨hb,e5⟩
   ·rw [if_pos hb];cases e5;refine Ex.into (ok.e e4 Sk c3.tr.ok c3.er hA) fun yv W4 s4 k4 z1=>?_;obtain ⟨UE,ry⟩:=z1;have c4:=c3.step k4 fun a b c d=>Sz _ _ _ _ a b c d;have hl:=(Fb hs Rq).1;have XI:=c4.acc;obtain ⟨hl4,vs,p4,r4⟩:=XI;have UQ:vs.size=QU.length:=by rw [<-r4.length,bA]
    refine ji p4 (fun h5 p5 sb=>?_) (by have:=pt;omega);refine ⟨QI.length+1,by simp,W4,QI,QU++[y],_,rfl,Rq,?_,UE⟩;have c5:=CL.grow (tk:=s4.toks) (o':= .lst (QU++[y])) K Sz c4 sb (by obtain ⟨o,_,e,_⟩:=p5;exact ⟨o,e⟩) (KB (bw hl QX) r4 ry p5);exact c5.forget (fun x d e=>pQ UP e) rfl
   ·rw [if_neg (by simp [hb])];cases e5;exact ⟨QI.length+1,by simp,W3,QI,QU,_,rfl,Rq,c3.forget (fun x d e=>pQ UP e) rfl,Sk⟩
  ·obtain ⟨ρ,b,g1,_,_,h3⟩:=hs _ _ _ _ e;rcases h3 with ⟨_,y,g2,_,h4⟩ | ⟨_,h4⟩<;>cases h4
noncomputable def A1 (n:Nat) (Qm:aX) (cst:St) (t:Expr) (ifs:List Expr) (kx vx:Expr) (step:D->List (Int×Int)->G->Option (List (Int×Int)×G×Option D)):Prop:=
 ∀ d acc g r,step d acc g=some r->∃ ρ b g1,bn t d cst.ρ=some ρ/\ceIfs P0 n Qm (cst.withRho ρ) ifs g=some (b,g1)/\
  ((b=true/\∃ x g2 y g3,ceE P0 n Qm (cst.withRho ρ) kx g1=some (.int x,g2)/\ceE P0 n Qm (cst.withRho ρ) vx g2=some (.int y,g3)/\r=(put x y acc,g3,none))\/(b=false/\r=(acc,g1,none)))
theorem Ia:∀ (k v:Int) (l:List (Int×Int)),l.length<=(put k v l).length:=by iterate 3
 induction l with
 | nil=>exact jL _
 | cons p r ih=>
  dsimp only [put];split
  ·exact bN _
  ·exact Nat.succ_le_succ ih
theorem Hy:∀ {n:Nat} {Qm:aX} {cst:St} {t:Expr} {ifs:List Expr} {kx vx:Expr} {step:D->List (Int×Int)->G->Option (List (Int×Int)×G×Option D)} (hs:A1 n Qm cst t ifs kx vx step),∀ {ds:List D} {acc:List (Int×Int)} {g:G} {QN:List (Int×Int)} {gF:G} {rr:Option D},iterLoop step ds acc g=some (QN,gF,rr)->acc.length<=QN.length:=by iterate 9
 intro ds;induction ds with
 | nil=>intro acc g QN gF rr h;cases h;exact bN _
 | cons d ds ih=>
  intro acc g QN gF rr h;rcases pJ h with ⟨a',g',e,h⟩ | ⟨a',g',x,e,h⟩
  ·have ih:=ih h;obtain ⟨ρ,b,g1,_,_,h3⟩:=hs _ _ _ _ e;rcases h3 with ⟨_,x,g2,y,g3,_,_,h4⟩ | ⟨_,h4⟩
   ·cases h4;exact bw (Ia ..) ih
   ·cases h4;exact ih
  ·obtain ⟨ρ,b,g1,_,_,h3⟩:=hs _ _ _ _ e;rcases h3 with ⟨_,y,g2,_,_,_,_,h4⟩ | ⟨_,h4⟩<;>cases h4
theorem Cp:∀ {t it kx vx:Expr} {ifs:List Expr} {pos:Pos} {step:D->List (Int×Int)->G->Option (List (Int×Int)×G×Option D)} {QN:List (Int×Int)} {gF:G} {rr:Option D} {St:List D->Wd->Heap->Prop} {ds:List D} {acc:List (Int×Int)} {g:G} (ok:Ok J n) (K:CK J W1 s1 Qv [I] Da) (hA:Qx n A) (hs:A1 n Qm cst t ifs kx vx step) (UP:cst.ρ=[]) (Rn:cst.own=none) (ht:tM Qm t=true) (hit:QT J I St) (QX:QN.length<=lim) (QL:iterLoop step ds acc g=some (QN,gF,rr)) (c:CL J W1 s1 Qm cst Qv [I] Da (St ds) (.QH acc) W s) (hg:W.H=g),bQ (aC P0 J.w) A (.compLoop (.DictComp kx vx [⟨t,it,ifs,0⟩] Qm pos) 0 (.ref I) (.ref Da) Qv) (uz J W1 s1 (.QH QN) gF (.ref Da) Qv.locals) s:=by iterate 26
 refine DZ (fun k s'=>∃ W' Rh QU g',k=Rh.length+1/\iterLoop step Rh QU g'=some (QN,gF,rr)/\CL J W1 s1 Qm cst Qv [I] Da (St Rh) (.QH QU) W' s'/\W'.H=g') ?_ (ds.length+1) ⟨W,ds,acc,g,rfl,QL,c,hg⟩;rintro k s' ⟨W',Rh,QU,g',rfl,QL,c,hg⟩;cases Rh with
 | nil=>cases QL;exact hit.done A W' s' _ _ hA.1 c.it c.tr.ok.sub (c.QY I (by simp)).1 fun h' tk kk=>c.finish (o:= .QH _) K hg (by simp) kk
 | cons d QI=>
  rcases pJ QL with ⟨a',V8,e,Rq⟩ | ⟨a',V8,x,e,_⟩
  ·obtain ⟨ρ,b,g1,e1,e2,e3⟩:=hs _ _ _ _ e;refine hit.next A W' s' d QI _ _ hA.1 c.it c.tr.ok.sub (c.QY I (by simp)).1 fun v h' tk rv RE hI kk lg=>?_;have c1:=c.next (St':=St QI) (tk:=tk) K (by simp) kk hI RE;have Sz:uJ [I] (St QI):=fun W W' h h' a b c d=>hit.keep _ _ _ _ _ a b c (d I (by simp));refine lg A t _ _ _ rfl ?_;refine af (c1.target K hA.1 Sz Rn e1 ht (fun _ _ _=>trivial) rv) (fun _ s2 c2=>?_) fun _ _ f=>f;refine Ex.into (ok.ifs e2 hg c2.tr.ok c2.er hA) fun bb W3 s3 k3 z2=>?_;obtain ⟨hb,Sk⟩:=z2;subst hb;have c3:=c2.step k3 fun a b c d=>Sz _ _ _ _ a b c d;rcases e3 with ⟨hb,x,g2,y,g3,e4,e5,e6⟩ | ⟨hb,e5⟩
   ·rw [if_pos hb];cases e6;refine Ex.into (ok.e e4 Sk c3.tr.ok c3.er hA) fun xv W4 s4 k4 z3=>?_;obtain ⟨UE,rx⟩:=z3;have c4:=c3.step k4 fun a b c d=>Sz _ _ _ _ a b c d;refine Ex.into (ok.e e5 UE c4.tr.ok c4.er hA) fun yv W5 s5 k5 z4=>?_;obtain ⟨VZ,ry⟩:=z4;have c5:=c4.step k5 fun a b c d=>Sz _ _ _ _ a b c d;have hl:=Hy hs Rq;have ab8:=c5.acc;obtain ⟨hl5,Vd,ws,p5,r5⟩:=ab8;obtain ⟨tx,rfl⟩:=rx;obtain ⟨ty,rfl⟩:=ry;refine wpAny_dictSet_pairs (knd:=IK J) (k:=x) (decide_eq_true rfl) p5 (fun h6 p6 sb=>?_) (by have:=pt;rw [r5.length];omega);refine ⟨QI.length+1,by simp,W5,QI,put x y QU,_,rfl,Rq,?_,VZ⟩;have Xc:(ws.map (·.1)).Nodup:=by obtain ⟨_,_,_,_,_,_,_,_,h⟩:=p5;exact h
    have c6:=CL.grow (tk:=s5.toks+1) (o':= .QH (put x y QU)) K Sz c5 sb (by obtain ⟨o,_,_,e,_⟩:=p6;exact ⟨o,e⟩) ⟨bw hl QX,Vd,_,p6,CR r5 Xc⟩;exact c6.forget (fun x d e=>pQ UP e) rfl
   ·rw [if_neg (by simp [hb])];cases e5;exact ⟨QI.length+1,by simp,W3,QI,QU,_,rfl,Rq,c3.forget (fun x d e=>pQ UP e) rfl,Sk⟩
  ·obtain ⟨ρ,b,g1,_,_,h3⟩:=hs _ _ _ _ e;rcases h3 with ⟨_,y,g2,_,_,_,_,h4⟩ | ⟨_,h4⟩<;>cases h4
end
noncomputable abbrev SW (elt t1 S2 t2 it2:Expr) (scope:aX) (pos:Pos):Expr:= .ListComp elt [⟨t1,S2,[],0⟩,⟨t2,it2,[],0⟩] scope pos
theorem LC (elt t1 S2 t2 it2:Expr) (scope:aX) (pos:Pos) (it acc:ag) (env:Env):
  kf (SW elt t1 S2 t2 it2 scope pos) 0 it acc env=(ky S2.pos >>=fun _=>eF it >>=fun r=>match r with
   | none=>pure (.done .next)
   | some v=>cH t1 it v >>=fun _=>assign t1 env v >>=fun _=>
    eval it2 env >>=fun x=>ky it2.pos >>=fun _=>gX it2 env x >>=fun x=>
     lH [x] (kz x) >>=fun jt=>runOwn (.compStart (SW elt t1 S2 t2 it2 scope pos) 1 jt acc env) env >>=fun _=>
     again (.compLoop (SW elt t1 S2 t2 it2 scope pos) 0 it acc env)):=by rfl
theorem LS (elt t1 S2 t2 it2:Expr) (scope:aX) (pos:Pos) (it acc:ag) (env:Env):
  kf (SW elt t1 S2 t2 it2 scope pos) 1 it acc env=(ky it2.pos >>=fun _=>eF it >>=fun r=>match r with
   | none=>pure (.done .next)
   | some v=>cH t2 it v >>=fun _=>assign t2 env v >>=fun _=>(eval elt env >>=fun x=>call (.builtin "list.append") [acc,x] >>=fun _=>pure ()) >>=fun _=>again (.compLoop (SW elt t1 S2 t2 it2 scope pos) 1 it acc env)):=by rfl
section
variable {J:Cx} {A:bf} {E:ag->ah->Prop} {R:iy->ah->Prop} {s:ah}
theorem JP:∀ {elt t1 S2 t2 it2:Expr} {scope:aX} {pos:Pos} {it acc:ag} {env:Env} (h0:bQ (aC P0 J.w) A (.compLoop (SW elt t1 S2 t2 it2 scope pos) 1 it acc env) R s) (h:aD (aC P0 J.w) A (kz it) (fun it' s'=>bQ (aC P0 J.w) A (.compLoop (SW elt t1 S2 t2 it2 scope pos) 1 it' acc env) R s') (fun _ _=>False) s),bQ (aC P0 J.w) A (.compStart (SW elt t1 S2 t2 it2 scope pos) 1 it acc env) R s:=by iterate 12
 refine codeAny_of_tree ?_;show aD _ _ ((compStart (SW elt t1 S2 t2 it2 scope pos) 1 it acc env).onRaise (fun x=>do gW x env;ky theWindowsPlace)) _ _ s;refine wpAny_notedAt ?_;unfold compStart;show aD _ _ (ask >>=_) _ _ s;refine ae (wpAny_askSetting (wpAny_ite ?_));split
 ·first
   | exact ae (ay (ay (lj rfl h0)))
   | exact ay (lj rfl h0)
 ·first
   | exact ae (ll (ae (bt (ae (af h (fun it' s' h'=>ay (lj rfl h')) fun _ _ x=>x.elim)))))
   | (refine ae (ll ?_);show aD _ _ (ky it2.pos >>=_) _ _ s;exact ae (bt (ae (af h (fun it' s' h'=>ay (lj rfl h')) fun _ _ x=>x.elim))))
theorem KZ:∀ {elt t1 S2 t2 it2:Expr} {scope:aX} {pos:Pos} {it acc:ag} {env:Env} (I:Nat->ah->Prop) (turn:∀ n s,I n s->aD (aC P0 J.w) A (eF it) (fun r Ql=>match r with
   | none=>R (.ok .next) Ql
   | some v=>aD (aC P0 J.w) A (cH t2 it v) (fun _ Qu=>aD (aC P0 J.w) A (assign t2 env v) (fun _ Q9=>
     aD (aC P0 J.w) A (eval elt env) (fun x RS=>aD (aC P0 J.w) A (call (.builtin "list.append") [acc,x]) (fun _ SF=>∃ m,m<n/\I m SF) (fun _ _=>False) RS) (fun _ _=>False) Q9)
     (fun _ _=>False) Qu) (fun _ _=>False) Ql) (fun _ _=>False) s) (n:Nat) (h:I n s),bQ (aC P0 J.w) A (.compLoop (SW elt t1 S2 t2 it2 scope pos) 1 it acc env) R s:=by iterate 14
 refine jU rfl I (fun n s hI=>?_) n h;show aD _ A ((kf (SW elt t1 S2 t2 it2 scope pos) 1 it acc env).onRaise (fun x=>do gW x env;dY x)) _ _ s;refine kq ?_;rw [LS];refine ae (bt (ae (af (turn n s hI) (fun r Ql Q5=>?_) fun _ _ h'=>h'.elim)));cases r with | none=>exact ay Q5 | some v=>refine ae (af Q5 (fun _ Qu SM=>?_) fun _ _ h'=>h'.elim);refine ae (af SM (fun _ Q9 Ry=>?_) fun _ _ h'=>h'.elim);exact ae (ae (af Ry (fun x RS S4=>ae (af S4 (fun _ SF S3=>ay (ay ⟨rfl,S3⟩)) fun _ _ h'=>h'.elim)) fun _ _ h'=>h'.elim))
theorem L8:∀ {elt t1 S2 t2 it2:Expr} {scope:aX} {pos:Pos} {it acc:ag} {env:Env} (I:Nat->ah->Prop) (turn:∀ n s,I n s->aD (aC P0 J.w) A (eF it) (fun r Ql=>match r with
   | none=>R (.ok .next) Ql
   | some v=>aD (aC P0 J.w) A (cH t1 it v) (fun _ Qu=>aD (aC P0 J.w) A (assign t1 env v) (fun _ Q9=>
     aD (aC P0 J.w) A (eval it2 env) (fun x QP=>aD (aC P0 J.w) A (gX it2 env x) (fun x QP=>aD (aC P0 J.w) A (kz x) (fun jt RS=>bQ (aC P0 J.w) A (.compStart (SW elt t1 S2 t2 it2 scope pos) 1 jt acc env) (fun r SF=>∃ f,r= .ok f/\∃ m,m<n/\I m SF) RS) (fun _ _=>False) QP) (fun _ _=>False) QP) (fun _ _=>False) Q9)
     (fun _ _=>False) Qu) (fun _ _=>False) Ql) (fun _ _=>False) s) (n:Nat) (h:I n s),bQ (aC P0 J.w) A (.compLoop (SW elt t1 S2 t2 it2 scope pos) 0 it acc env) R s:=by iterate 14
 refine jU rfl I (fun n s hI=>?_) n h;show aD _ A ((kf (SW elt t1 S2 t2 it2 scope pos) 0 it acc env).onRaise (fun x=>do gW x env;dY x)) _ _ s;refine kq ?_;rw [LC];refine ae (bt (ae (af (turn n s hI) (fun r Ql Q5=>?_) fun _ _ h'=>h'.elim)));cases r with | none=>exact ay Q5 | some v=>refine ae (af Q5 (fun _ Qu SM=>?_) fun _ _ h'=>h'.elim);refine ae (af SM (fun _ Q9 Ry=>?_) fun _ _ h'=>h'.elim);refine ae (af Ry (fun x QP RX=>ae (bt (ae (af RX (fun x QP RX=>ae (bu (af RX (fun jt RS S4=>?_) fun _ _ h'=>h'.elim))) fun _ _ h'=>h'.elim)))) fun _ _ h'=>h'.elim);refine ae (wpAny_runOwn (cP S4 fun r SF hr=>?_));obtain ⟨f,rfl,hm⟩:=hr;exact ay ⟨rfl,hm⟩
end
noncomputable def Cc (n:Nat) (Qm:aX) (cst:St) (t:Expr) (elt:Expr) (step:D->List D->G->Option (List D×G×Option D)):Prop:=
 ∀ d acc g r,step d acc g=some r->∃ ρ x g2,bn t d cst.ρ=some ρ/\ceE P0 n Qm (cst.withRho ρ) elt g=some (x,g2)/\r=(acc++[x],g2,none)
noncomputable def yM (n:Nat) (Qm:aX) (cst:St) (t t2 it2 elt:Expr) (step:D->List D->G->Option (List D×G×Option D)):Prop:=
 ∀ d acc g r,step d acc g=some r->∃ ρ d2 g1 UI Sm g2 x inner,bn t d cst.ρ=some ρ/\ceE P0 n Qm (cst.withRho ρ) it2 g=some (d2,g1)/\itemsOf d2=some UI/\
  Cc n Qm (cst.withRho ρ) t2 elt inner/\iterLoop inner UI acc g1=some (Sm,g2,x)/\r=(Sm,g2,none)
theorem Gu:∀ {n:Nat} {Qm:aX} {cst:St} {t elt:Expr} {step:D->List D->G->Option (List D×G×Option D)} (hs:Cc n Qm cst t elt step),∀ {ds:List D} {acc:List D} {g:G} {QN:List D} {gF:G} {rr:Option D},iterLoop step ds acc g=some (QN,gF,rr)->acc.length<=QN.length:=by iterate 7
 intro ds;induction ds with
 | nil=>intro acc g QN gF rr h;cases h;exact bN _
 | cons d ds ih=>
  intro acc g QN gF rr h;rcases pJ h with ⟨a',g',e,h⟩ | ⟨a',g',x,e,h⟩
  ·have ih:=ih h;obtain ⟨ρ,x,g2,_,_,h4⟩:=hs _ _ _ _ e;cases h4;rw [aw] at ih;exact bw (d9 _ _) ih
  ·obtain ⟨ρ,x,g2,_,_,h4⟩:=hs _ _ _ _ e;cases h4
theorem EN:∀ {n:Nat} {Qm:aX} {cst:St} {t t2 it2 elt:Expr} {step:D->List D->G->Option (List D×G×Option D)} (hs:yM n Qm cst t t2 it2 elt step),∀ {ds:List D} {acc:List D} {g:G} {QN:List D} {gF:G} {rr:Option D},iterLoop step ds acc g=some (QN,gF,rr)->acc.length<=QN.length:=by iterate 9
 intro ds;induction ds with
 | nil=>intro acc g QN gF rr h;cases h;exact bN _
 | cons d ds ih=>
  intro acc g QN gF rr h;rcases pJ h with ⟨a',g',e,h⟩ | ⟨a',g',x,e,h⟩
  ·have ih:=ih h;obtain ⟨ρ,d2,g1,UI,Sm,g2,x,inner,_,_,_,h5,h6,h7⟩:=hs _ _ _ _ e;cases h7;exact bw (Gu h5 h6) ih
  ·obtain ⟨ρ,d2,g1,UI,Sm,g2,x,inner,_,_,_,h5,h6,h7⟩:=hs _ _ _ _ e;cases h7
theorem wL:∀ {t:Expr} {d:D} {ρ Sh:Qr} {x:Str} (e:bn t d ρ=some Sh) (hd:db (oV t)=true) (hx:x∉oV t),Sh.lookup x=ρ.lookup x:=by iterate 8
 rcases qJ e with ⟨y,p,rfl,rfl⟩ | ⟨xps,ds,k,p,rfl,_,hl,rfl⟩
 ·exact qq fun q=>hx (show x∈[y] from ej.mpr q)
 ·rw [q7] at hx hd;exact (uR hd (by simpa using hl)).1 x hx
section
variable {J:Cx} {A:bf} {W W1:Wd} {s s1:ah} {Qm:aX} {cst:St} {Qv:Env} {I ahf Da:Addr} {n:Nat}
theorem Av:∀ {t it t2 it2 elt:Expr} {pos:Pos} {step:D->List D->G->Option (List D×G×Option D)} {Sm:List D} {g2:G} {rr:Option D} {X4 XJ:List D->Wd->Heap->Prop} {Ze:List D} {ds acc:List D} {g:G} (ok:Ok J n) (K:CK J W1 s1 Qv [ahf,I] Da) (hA:Qx n A) (hs:Cc n Qm cst t2 elt step) (Rn:cst.own=none) (ht:tM Qm t2=true) (Xl:∀ d ρ x e,bn t2 d cst.ρ=some ρ->varD Qm cst x=some e->varD Qm (cst.withRho ρ) x=some e) (Xg:QT J I X4) (Uc:QT J ahf XJ) (QX:Sm.length<=lim) (Y7:I≠ahf) (QL:iterLoop step ds acc g=some (Sm,g2,rr)) (c:CL J W1 s1 Qm cst Qv [ahf,I] Da (fun W h=>XJ ds W h/\X4 Ze W h) (.lst acc) W s) (hg:W.H=g),bQ (aC P0 J.w) A (.compLoop (SW elt t it t2 it2 Qm pos) 1 (.ref ahf) (.ref Da) Qv) (fun r s'=>r= .ok .next/\∃ W',CL J W1 s1 Qm cst Qv [I] Da (X4 Ze) (.lst Sm) W' s'/\W'.H=g2) s:=by iterate 30
 refine KZ (fun k s'=>∃ W' Rh QU g',k=Rh.length+1/\iterLoop step Rh QU g'=some (Sm,g2,rr)/\CL J W1 s1 Qm cst Qv [ahf,I] Da (fun W h=>XJ Rh W h/\X4 Ze W h) (.lst QU) W' s'/\W'.H=g') ?_ (ds.length+1) ⟨W,ds,acc,g,rfl,QL,c,hg⟩;rintro k s' ⟨W',Rh,QU,g',rfl,QL,c,hg⟩;cases Rh with
 | nil=>
  cases QL;refine Uc.done A W' s' _ _ hA.1 c.it.1 c.tr.ok.sub (c.QY ahf (by simp)).1 fun h' tk kk=>?_;have hD:Da≠ahf:=dz (K.ID ahf (by simp));refine ⟨rfl,W',?_,hg⟩;exact {
   tr:=c.tr.RB K.RT (K.nI ahf (by simp)) ⟨(c.QY ahf (by simp)).1,(c.QY ahf (by simp)).2.1,(c.QY ahf (by simp)).2.2.1⟩ kk
   er:=c.er.Tw (tk:=tk) (by simpa using K.IC ahf (by simp)) kk
   it:=Xg.keep _ _ _ _ _ c.it.2 (PM.le.refl _) (Pre.refl _) fun o e=>kk _ _ Y7 e
   QY:=fun a ha=>by simp at ha;subst ha;have z:=c.QY a (by simp);exact ⟨z.1,z.2.1,z.2.2.1,(by obtain ⟨o,e⟩:=z.2.2.2;exact ⟨o,kk _ _ Y7 e⟩)⟩
   RJ:=⟨c.RJ.1,c.RJ.2.1,c.RJ.2.2.1,(by obtain ⟨o,e⟩:=c.RJ.2.2.2;exact ⟨o,kk _ _ hD e⟩)⟩
   acc:=c.acc.keep (PM.le.refl _) (Pre.refl _) fun o e=>kk _ _ hD e}
 | cons d QI=>
  rcases pJ QL with ⟨a',V8,e,Rq⟩ | ⟨a',V8,x,e,_⟩
  ·obtain ⟨ρ,y,g3,e1,e4,e5⟩:=hs _ _ _ _ e;refine Uc.next A W' s' d QI _ _ hA.1 c.it.1 c.tr.ok.sub (c.QY ahf (by simp)).1 fun v h' tk rv RE hJ kk lg=>?_;have Sz:uJ [ahf,I] (fun W h=>XJ QI W h/\X4 Ze W h):=fun W W' h h' a b c d=>⟨Uc.keep _ _ _ _ _ a.1 b c (d ahf (by simp)),Xg.keep _ _ _ _ _ a.2 b c (d I (by simp))⟩
   have c1:=c.next (St':=fun W h=>XJ QI W h/\X4 Ze W h) (tk:=tk) K (I:=ahf) (by simp) kk hJ ⟨RE,Xg.keep _ _ _ _ _ c.it.2 (PM.le.refl _) (Pre.refl _) fun o e=>kk _ _ Y7 e⟩;refine lg A t2 _ _ _ rfl ?_;refine af (c1.target K hA.1 Sz Rn e1 ht (fun _ _ _=>trivial) rv) (fun _ s2 c2=>?_) fun _ _ f=>f;cases e5;refine Ex.into (ok.e e4 hg c2.tr.ok c2.er hA) fun yv W4 s4 k4 z0=>?_;obtain ⟨UE,ry⟩:=z0;have c4:=c2.step k4 fun a b c d=>Sz _ _ _ _ a b c d;have hl:=Gu hs Rq;have XI:=c4.acc;obtain ⟨hl4,vs,p4,r4⟩:=XI;have UQ:vs.size=QU.length:=by rw [<-r4.length,bA]
   refine ji p4 (fun h5 p5 sb=>?_) (by have:=pt;omega);refine ⟨QI.length+1,by simp,W4,QI,QU++[y],_,rfl,Rq,?_,UE⟩;have c5:=CL.grow (tk:=s4.toks) (o':= .lst (QU++[y])) K Sz c4 sb (by obtain ⟨o,_,e,_⟩:=p5;exact ⟨o,e⟩) (KB (bw hl QX) r4 ry p5);exact c5.forget (fun x d e=>Xl _ _ _ _ e1 e) rfl
  ·obtain ⟨ρ,y,g3,e1,e4,e5⟩:=hs _ _ _ _ e;cases e5
theorem wQ:∀ {sc:aX} {st:St} {es:List Expr} {k:Nat} {p:Pos} {g:G} {r:D×G},ceE P0 n sc st (.Set es k p) g≠some r:=by iterate 7 intro h;cases n<;>cases h
theorem wr:∀ {sc:aX} {st:St} {e:Expr} {g:G} {r:D×G} {env:Env} (h:ceE P0 n sc st e g=some r) (x:ag),gX e env x=pure x:=by iterate 8 cases e<;>first | rfl | exact absurd h wQ
theorem Bx:∀ {t it t2 it2 elt:Expr} {pos:Pos} {step:D->List D->G->Option (List D×G×Option D)} {QN:List D} {gF:G} {rr:Option D} {St:List D->Wd->Heap->Prop} {ds acc:List D} {g:G} (ok:Ok J n) (K:CK J W1 s1 Qv [I] Da) (hA:Qx n A) (hs:yM n Qm cst t t2 it2 elt step) (UP:cst.ρ=[]) (Rn:cst.own=none) (ht:tM Qm t=true) (UB:tM Qm t2=true) (Ug:db (oV t++oV t2)=true) (hit:QT J I St) (QX:QN.length<=lim) (QL:iterLoop step ds acc g=some (QN,gF,rr)) (c:CL J W1 s1 Qm cst Qv [I] Da (St ds) (.lst acc) W s) (hg:W.H=g),bQ (aC P0 J.w) A (.compLoop (SW elt t it t2 it2 Qm pos) 0 (.ref I) (.ref Da) Qv) (uz J W1 s1 (.lst QN) gF (.ref Da) Qv.locals) s:=by iterate 28
 refine L8 (fun k s'=>∃ W' Rh QU g',k=Rh.length+1/\iterLoop step Rh QU g'=some (QN,gF,rr)/\CL J W1 s1 Qm cst Qv [I] Da (St Rh) (.lst QU) W' s'/\W'.H=g') ?_ (ds.length+1) ⟨W,ds,acc,g,rfl,QL,c,hg⟩;rintro k s' ⟨W',Rh,QU,g',rfl,QL,c,hg⟩;cases Rh with
 | nil=>cases QL;exact hit.done A W' s' _ _ hA.1 c.it c.tr.ok.sub (c.QY I (by simp)).1 fun h' tk kk=>c.finish (o:= .lst _) K hg (by simp) kk
 | cons d QI=>
  rcases pJ QL with ⟨a',V8,e,Rq⟩ | ⟨a',V8,x,e,_⟩
  ·obtain ⟨ρ,d2,g1,UI,Sm,g2,x,inner,e1,e2,e3,e4,e5,e6⟩:=hs _ _ _ _ e;cases e6;refine hit.next A W' s' d QI _ _ hA.1 c.it c.tr.ok.sub (c.QY I (by simp)).1 fun v h' tk rv RE hI kk lg=>?_;have c1:=c.next (St':=St QI) (tk:=tk) K (by simp) kk hI RE;have Sz:uJ [I] (St QI):=fun W W' h h' a b c d=>hit.keep _ _ _ _ _ a b c (d I (by simp));refine lg A t _ _ _ rfl ?_;refine af (c1.target K hA.1 Sz Rn e1 ht (fun _ _ _=>trivial) rv) (fun _ s2 c2=>?_) fun _ _ f=>f;refine Ex.into (ok.e e2 hg c2.tr.ok c2.er hA) fun xv W3 s3 k3 z1=>?_;obtain ⟨Sk,rx⟩:=z1;have c3:=c2.step k3 fun a b c d=>Sz _ _ _ _ a b c d;refine gb (wr e2 xv) ?_;refine af (wd e3 rx c3.tr.ok) (fun jt s4 z2=>?_) fun _ _ f=>f;obtain ⟨ahf,XJ,hjt,Uc,WR,Yw,k4⟩:=z2;subst hjt;have c4:=c3.step k4 fun a b c d=>Sz _ _ _ _ a b c d;have hJ1:s1.heap.get? ahf=none:=c3.tr.Qy Yw;have thJ:∃ o,s4.heap.get? ahf=some o:=Uc.there _ _ _ WR;have Zd:∃ o,s3.heap.get? I=some o:=(c3.QY I (by simp)).2.2.2;have Y7:I≠ahf:=fun q=>by obtain ⟨o,e⟩:=Zd;rw [q,Yw] at e;cases e
   have hJf:ahf∉am Qv:=fun hm=>by obtain ⟨_,_,_,o,e⟩:=c3.er.apart ahf (aE _ hm);rw [Yw] at e;cases e
   have hJD:ahf≠Da:=fun q=>by obtain ⟨o,e⟩:=c3.RJ.2.2.2;rw [<-q,Yw] at e;cases e
   have K2:CK J W1 s1 Qv [ahf,I] Da:={
    RT:=K.RT
    nI:=fun a ha=>by
     rcases aq.mp ha with rfl | ha
     ·exact hJ1
     ·exact K.nI a ha
    nD:=K.nD
    nC:=K.nC
    ID:=fun a ha=>by
     rcases aq.mp ha with rfl | ha
     ·exact hJD
     ·exact K.ID a ha
    IC:=fun a ha=>by
     rcases aq.mp ha with rfl | ha
     ·exact hJf
     ·exact K.IC a ha
    DC:=K.DC}
   have nJ:=c3.tr.ok.QQ Yw;have c5:CL J W1 s1 Qm (cst.withRho ρ) Qv [ahf,I] Da (fun W h=>XJ UI W h/\St QI W h) (.lst QU) W3 s4:={
    tr:=c4.tr
    er:=c4.er
    it:=⟨WR,c4.it⟩
    QY:=fun a ha=>by
     rcases aq.mp ha with rfl | ha
     ·exact ⟨nJ.1,nJ.2.1,nJ.2.2,thJ⟩
     ·exact c4.QY a ha
    RJ:=c4.RJ
    acc:=c4.acc}
   have hl:=bw (EN hs Rq) QX;have Xl:∀ d Sh x e,bn t2 d (cst.withRho ρ).ρ=some Sh->varD Qm (cst.withRho ρ) x=some e->varD Qm ((cst.withRho ρ).withRho Sh) x=some e:=fun d Sh x e hb hv=>by
    have hd2:db (oV t2)=true:=by unfold tM at UB;rw [ai] at UB;exact UB.2
    have YQ:db (oV t)=true:=by unfold tM at ht;rw [ai] at ht;exact ht.2
    have key:∀ e,ρ.lookup x=some e->Sh.lookup x=some e:=fun e h=>by
     have hx1:x∈oV t:=by
      by_cases q:x∈oV t
      ·exact q
      ·rw [wL e1 YQ q,UP] at h;cases h
     have hx2:x∉oV t2:=fun q=>by have:=Rc.mp Ug;rw [gn] at this;exact this.2.2 x hx1 x q rfl
     rw [wL hb hd2 hx2];exact h
    unfold varD at hv ⊢;cases q:Qm.names.lookup x with
    | none=>rw [q] at hv;cases hv
    | some k=>rw [q] at hv;cases k<;>simp only at hv ⊢ <;>first | exact key _ hv | exact hv | cases hv
   have inn:bQ (aC P0 J.w) A (.compLoop (SW elt t it t2 it2 Qm pos) 1 (.ref ahf) (.ref Da) Qv) (fun r s5=>∃ f,r= .ok f/\∃ m,m<(d::QI).length+1/\∃ W' Rh QU g',m=Rh.length+1/\iterLoop step Rh QU g'=some (QN,gF,rr)/\CL J W1 s1 Qm cst Qv [I] Da (St Rh) (.lst QU) W' s5/\W'.H=g') s4:=by refine cP (Av ok K2 hA e4 Rn UB Xl hit Uc hl Y7 e5 c5 Sk) fun r s5 z3=>?_;obtain ⟨hr,W5,c6,VZ⟩:=z3;subst hr;exact ⟨_,rfl,QI.length+1,by simp,W5,QI,_,_,rfl,Rq,c6.forget (fun x d e=>pQ UP e) rfl,VZ⟩
   exact JP inn (Uc.self A W3 s4 UI _ _ hA.1 WR inn)
  ·obtain ⟨ρ,d2,g1,UI,Sm,g2,x,inner,e1,e2,e3,e4,e5,e6⟩:=hs _ _ _ _ e;cases e6
end
section
variable {J:Cx} {A:bf} {W W1:Wd} {s s1 s2:ah} {sc Qm:aX} {st:St} {env:Env} {ow:List Addr} {I:Addr} {n:Nat}
theorem zS:∀ (h:Heap),(h.push {cls:= .type "dict",data:= .dict #[]}).DictOf (IK J) h.objs.size []:=by iterate 1 exact (⟨_,_,_,ax _ rfl,⟨rfl,rfl,rfl⟩,rfl,fun e he=>by simp at he,.nil,by simp⟩)
theorem DB:∀ {e:Expr} {QF:Sem ag} {o0:OW} {Rp:ag->Addr->iy->ah->Prop} {St:List D->Wd->Heap->Prop} {ds:List D} (fx:Fx J) (Ui:(QF=newList []/\o0= .lst [])\/(QF=newDict/\o0= .QH [])) (hs:Tt sc Qm) (ahg:Qq J W1 s1.heap sc st env ow) (RT:Qs J W1 s1) (hit:QT J I St) (RE:St ds W1 s2.heap) (VF:s1.heap.get? I=none) (tr:Qp J [] W1 s1 W1 s2) (Vi:∀ C Da s4,CK J W1 s1 (rD Qm env C) [I] Da->CL J W1 s1 Qm (st.comp sc Qm) (rD Qm env C) [I] Da (St ds) o0 W1 s4->bQ (aC P0 J.w) A (.compStart e 0 (.ref I) (.ref Da) (rD Qm env C)) (Rp (.ref Da) C) s4),aD (aC P0 J.w) A QF (fun acc QP=>aD (aC P0 J.w) A (newFunctionEnv Qm env.globals (p8 env Qm.names []) [] env.qual none .none (some env)) (fun Qv RS=>
   bQ (aC P0 J.w) A (.compStart e 0 (.ref I) acc {Qv with scope:=relabel Qm env}) (Rp acc Qv.locals) RS) (fun _ _=>False) QP) (fun _ _=>False) s2:=by iterate 16
 have main:∀ (ob:Obj),ob.isFreed=false->(∀ h':Heap,(∀ o,(s2.heap.push ob).get? s2.heap.objs.size=some o->h'.get? s2.heap.objs.size=some o)->QS J W1 h' o0 s2.heap.objs.size)->
   aD (aC P0 J.w) A (newFunctionEnv Qm env.globals (p8 env Qm.names []) [] env.qual none .none (some env)) (fun Qv RS=>bQ (aC P0 J.w) A (.compStart e 0 (.ref I) (.ref s2.heap.objs.size) {Qv with scope:=relabel Qm env}) (Rp (.ref s2.heap.objs.size) Qv.locals) RS) (fun _ _=>False) {s2 with heap:=s2.heap.push ob}:=by
  intro ob Tu Rn;refine fA (fun y hy=>fun q=>hs.cell y.1 (by rw [<-q];exact hy)) (by intro y hy;simp at hy) (fun h' Sf sb=>?_) hs.kind;have hD2:s2.heap.get? s2.heap.objs.size=none:=bv _;have hC3:(s2.heap.push ob).get? (s2.heap.push ob).objs.size=none:=bv _;have hDC:s2.heap.objs.size≠(s2.heap.push ob).objs.size:=by rw [m8];exact fR (jq _)
  have ZY:s2.heap.get? (s2.heap.push ob).objs.size=none:=by cases q:s2.heap.get? (s2.heap.push ob).objs.size with | none=>rfl | some o=>have:=aF ob q;rw [hC3] at this;cases this
  have Zy:∀ b o,s2.heap.get? b=some o->h'.get? b=some o:=fun b o q=>sb.extBut b o (fun z=>by rw [z,ZY] at q;cases q) (aF _ (aF _ q));have t2:Qp J [] W1 s2 W1 {s2 with heap:=h',toks:=s2.toks+([]:List (Str×ag)).length}:=
   (Qp.grow (X:=[]) (s':={s2 with heap:=h',toks:=s2.toks+([]:List (Str×ag)).length}) tr.ok (fun b o _ q=>Zy b o q) (fun b o q=>⟨o,Zy b o q⟩) (by simp) rfl rfl)
  have nD:=tr.ok.QQ hD2;have nC:=tr.ok.QQ ZY;have exD:h'.get? s2.heap.objs.size=some ob:=sb.extBut _ _ hDC (aF _ (ax _ Tu));have tr4:=tr.Qn t2;have Zd:∃ o,s2.heap.get? I=some o:=hit.there _ _ _ RE;have nI:=RT.QQ VF;have hDI:I≠s2.heap.objs.size:=fun q=>by obtain ⟨o,e⟩:=Zd;rw [q,hD2] at e;cases e
  have ZX:I≠(s2.heap.push ob).objs.size:=fun q=>by obtain ⟨o,e⟩:=Zd;rw [q,ZY] at e;cases e
  have fr:∀ a∈am env,∃ o,s1.heap.get? a=some o:=fun a ha=>(ahg.apart a (aE _ ha)).2.2.2;have out:∀ a,s1.heap.get? a=none->a∉am env:=fun a ha hm=>by obtain ⟨o,e⟩:=fr a hm;rw [ha] at e;cases e
  have hD1:=tr.Qy hD2;have hC1:=tr.Qy ZY;have Hs:Qq J W1 h' sc st env ow:=ahg.QG tr4;have apC:Apart J W1 h' (s2.heap.push ob).objs.size:=⟨nC.1,nC.2.1,nC.2.2,(by obtain ⟨o,_,_,e,_⟩:=Sf;exact ⟨o,e⟩)⟩
  have er:=Gv (s:={s2 with heap:=h'}) (C:=(s2.heap.push ob).objs.size) hs Hs apC (out _ hC1) ⟨_,Sf⟩;have WL:∀ a,a≠(s2.heap.push ob).objs.size->s1.heap.get? a=none->a∉am (rD Qm env (s2.heap.push ob).objs.size):=fun a h1 h2 hm=>by
   rcases BJ hs ahg a hm with q | q
   ·exact h1 q
   ·exact out a h2 q
  refine Vi (s2.heap.push ob).objs.size s2.heap.objs.size _ ?_ ?_
  ·exact {
    RT:=RT
    nI:=by simpa using VF
    nD:=hD1
    nC:=hC1
    ID:=by simpa using hDI
    IC:=by simpa using WL I ZX VF
    DC:=WL _ hDC hD1}
  ·exact {
    tr:=tr4
    er:=er
    it:=hit.keep _ _ _ _ _ RE (PM.le.refl _) (Pre.refl _) fun o e=>Zy _ _ e
    QY:=fun a ha=>by simp at ha;subst ha;exact ⟨nI.1,nI.2.1,nI.2.2,(by obtain ⟨o,e⟩:=Zd;exact ⟨o,Zy _ _ e⟩)⟩
    RJ:=⟨nD.1,nD.2.1,nD.2.2,ob,exD⟩
    acc:=Rn h' fun o e=>by rw [ax _ Tu] at e;cases e;exact exD}
 rcases Ui with ⟨rfl,rfl⟩ | ⟨rfl,rfl⟩
 ·refine dj (main _ rfl fun h' hk=>?_);refine ⟨by simp,#[],⟨_,_,hk _ (ax _ rfl),rfl,rfl,rfl⟩,?_⟩;dsimp only [Qt]
 ·refine dj (main _ rfl fun h' hk=>?_);refine ⟨by simp,?_,[],?_,by dsimp only [Sb]⟩
  ·obtain ⟨o,e⟩:=fx.WG;have e:=tr.ok.QB _ _ e;have:s2.heap.objs.size≠iB:=fun q=>by
    have z:=bv s2.heap;rw [q,e] at z;cases z
   simpa using this
  ·obtain ⟨o,es,ep,e,r⟩:=zS (J:=J) s2.heap;exact ⟨o,es,ep,hk _ e,r⟩
theorem wm:∀ {e it:Expr} {pos:Pos} {QF:Sem ag} {o0:OW} {dI d:D} {ds:List D} {g gI gF:G} {cg:js} {cgs:List js} (fx:Fx J) (ok:Ok J n) (Sr:clausesOf e=cg::cgs) (VI:cg.iter=it) (Ui:(QF=newList []/\o0= .lst [])\/(QF=newDict/\o0= .QH [])) (Ve:yE sc Qm=true) (hI:ceE P0 n sc st it g=some (dI,gI)) (hds:itemsOf dI=some ds) (hg:W.H=g) (hw:Qs J W s) (ahg:Qq J W s.heap sc st env ow) (hA:Qx n A) (Vi:∀ W1 s1 C Da I St s4,Qp J [] W s W1 s1->W1.H=gI->QT J I St->CK J W1 s1 (rD Qm env C) [I] Da->CL J W1 s1 Qm (st.comp sc Qm) (rD Qm env C) [I] Da (St ds) o0 W1 s4->
   bQ (aC P0 J.w) A (.compStart e 0 (.ref I) (.ref Da) (rD Qm env C)) (uz J W1 s1 d gF (.ref Da) C) s4),zI J A W s e Qm env pos QF (eval it env) d gF:=by iterate 26
 intro use Q hQ;have hs:=FQ Ve;subst VI;refine wpAny_comprehension_free Sr (wr hI) (zG hs ahg) hs.kind (fun x hx q=>by have:=hs.names x.1 x.2 hx;rw [q] at this;exact this) ?_;refine Ex.into (ok.e hI hg hw ahg hA) fun x W1 s1 k1 z0=>?_;obtain ⟨Ra,rx⟩:=z0;refine af (wd hds rx k1.ok) (fun jt s2 z1=>?_) fun _ _ f=>f;obtain ⟨I,St,hjt,hit,RE,VF,k2⟩:=z1;subst hjt;refine DB (Rp:=fun acc C=>compPost (aC P0 J.w) A (fun _ _=>False) use Q acc C) fx Ui hs (ahg.QG k1) k1.ok hit RE VF k2 fun C Da s4 K c=>?_;refine cP (Vi W1 s1 C Da I St s4 k1 Ra hit K c) fun r s' h=>?_;have hr:=h.1;subst hr;exact hQ W1 s1 k1 _ _ _ h
theorem sY:∀ {e:Expr} {pos:Pos} {QF first:Sem ag} {d:D} {g:G} (hw:Qs J W s) (h:zI J A W s e Qm env pos QF first d g),Ex J A (lJ e Qm env pos QF false first) [] W s (li J d g):=by iterate 8 refine h none _ fun W1 s1 k1 acc C s' z2=>?_;obtain ⟨_,W',t,hg,r,ap,hC,m,hn⟩:=z2;refine ⟨m,hn,fun h' sb=>?_⟩;refine ⟨W',?_,hg,r⟩;have:=t.RB (tk:=s'.toks) k1.ok hC ⟨ap.1,ap.2.1,ap.2.2.1⟩ (fun b o hb q=>(sb.2 b hb).trans q);exact k1.Qn this
end
noncomputable def S7 (J:Cx) (f:Str) (v:ag):Prop:=∃ mg mb,Uj (F0 J) bC mg/\Uj (F0 J) bU mb/\(mg f=some v\/(mg f=none/\mb f=some v))
noncomputable def H0 (J:Cx) (h:Heap):Prop:=∀ a o,F0 J a=some o->h.get? a=some o
noncomputable def pV (J:Cx) (f:Str) (fv:ag):Prop:=S7 J f fv/\∀ h,H0 J h->∃ k,(k=mZ\/k=mr\/k=lC)/\jI (aC P0 J.w) h (lG fv) k
noncomputable def wh (J:Cx) (n:Nat):Prop:=∀ {f ds g d g'},ceCall P0 n f ds g=some (d,g')->∃ fv,pV J f fv/\∀ {A W s vs},Qx n A->W.H=g->Qt J W.F W.as ds vs->Qs J W s->Ex J A (call fv vs) [] W s (li J d g')
structure Lx (J:Cx) (n:Nat):Prop where
 Te:∀ {m i ds g1 d g2 A W s o apos pos env ov k trees},methD m (.loc i) ds g1=some (d,g2)->J8 m<=n->W.H[i]?.map kindOf=g1[i]?.map kindOf->Rd J W.F W.as (.loc i) ov->Qs J W s->Qx n A->(trees:List (Bool×Sem ag)).any (·.1)=false->(k<30)->(apos.endLine==pos.line)=true->
  Ex J A (eM trees) [] W s (fun vs W' _=>W'.H=g1/\Qt J W'.F W'.as ds vs)->Ex J A (eG o m apos pos env ov k trees []) [] W s (li J d g2)
 attr:∀ {i:Nat} {o:MO} {a:Str} {d:D} {A W s ov},W.H[i]? =some o->yg a o=some d->Rd J W.F W.as (.loc i) ov->Qs J W s->Qx 1 A->Ex J A (mP ov a true) [] W s (li J d W.H)
section
variable {J:Cx} {A:bf} {W W1:Wd} {s s1 s2:ah} {sc Qm:aX} {st:St} {env:Env} {ow:List Addr} {n:Nat} {X:List Addr}
theorem oP:∀ {x:Str} (h:mt x=true),(x==("__debug__" :Str))=false/\(x==bB "__classdict__")=false:=by iterate 2 unfold mt at h;rw [ai] at h;refine ⟨by simpa using h.1,?_⟩;have:=h.2;simp only [bG] at this;exact this
theorem cr:∀ {x:Str} {v:ag} {Q:ag->ah->Prop} {E:ag->ah->Prop} (ahg:RG s.heap env x v) (hk:env.scope.kind= .function) (hx:mt x=true) (h:Q v s),aD (aC P0 J.w) A (loadName env x) Q E s:=by iterate 8
 rcases ahg with ⟨e,m,hn,hm⟩ | ⟨e | e,c,hc,hv⟩
 ·exact wpAny_loadName_local hk e hn hm h
 ·exact wpAny_loadName_cell hk e hc hv h
 ·exact wpAny_loadName_free hk e hc hv h (oP hx).2
theorem S7.load:∀ {f:Str} {v:ag} {Q:ag->ah->Prop} {E:ag->ah->Prop} (ahg:S7 J f v) (R:Qq J W s.heap sc st env ow) (hw:Qs J W s) (h:Q v s),aD (aC P0 J.w) A (loadGlobal env f) Q E s:=by iterate 8
 obtain ⟨mg,mb,h1,h2,h3 | ⟨h3,h4⟩⟩:=ahg
 ·exact ke (by rw [R.glob];exact h1.ns hw.QB) h3 h
 ·exact j1 (by rw [R.glob];exact h1.ns hw.QB) h3 (by rw [R.bi];exact h2.ns hw.QB) h4 h
theorem Qq.global:∀ {x:Str} (R:Qq J W s.heap sc st env ow) (h:qb sc x=true),env.kindOf x=some .globalImplicit:=by iterate 3
 have e:sc.names.lookup x=some .globalImplicit:=by
  unfold qb at h;cases q:sc.names.lookup x with
  | none=>rw [q] at h;cases h
  | some k=>rw [q] at h;cases k<;>first | rfl | cases h
 rcases R.kd _ _ e with q | ⟨q,_⟩
 ·exact q
 ·cases q
theorem EY:∀ {x:Str} {d:D} (fx:Fx J) (e:(if x==("EXACT_TOKEN_TYPES" :Str) then some D.tab else if x==("int" :Str) then some D.Sq else (tI P0 x).map D.int)=some d),∃ v,S7 J x v/\∀ F as,Rd J F as d v:=by iterate 4
 obtain ⟨mg,mb,h1,h2,h3,h4,h5,h6,_⟩:=fx.glob;split at e
 ·rename_i hx;cases e;exact ⟨_,⟨mg,mb,h1,h2,.inl (by rw [eq_of_beq hx];exact h4)⟩,fun F as=>rfl⟩
 ·split at e
  ·rename_i hx;cases e;exact ⟨_,⟨mg,mb,h1,h2,.inr (by rw [eq_of_beq hx];exact ⟨h5,h6⟩)⟩,fun F as=>rfl⟩
  ·obtain ⟨i,hi,rfl⟩:=ba.mp e;obtain ⟨t,ht⟩:=h3 x i hi;exact ⟨_,⟨mg,mb,h1,h2,.inl ht⟩,fun F as=>⟨t,rfl⟩⟩
theorem Ah:∀ {x:Str} {d:D} (e:nameD P0 sc st x=some d),(qb sc x=true/\(if x==("EXACT_TOKEN_TYPES" :Str) then some D.tab else if x==("int" :Str) then some D.Sq else (tI P0 x).map D.int)=some d)\/varD sc st x=some d:=by iterate 3
 unfold nameD at e;unfold qb varD;cases q:sc.names.lookup x with
 | none=>rw [q] at e;cases e
 | some k=>rw [q] at e;cases k with | globalImplicit=>exact .inl ⟨rfl,e⟩ | globalExplicit=>cases e | _=>exact .inr e
theorem vT:∀ {x:Str} {p:Pos} {d:D} {E:ag->ah->Prop} (fx:Fx J) (e:nameD P0 sc st x=some d) (hx:mt x=true) (hw:Qs J W s) (R:Qq J W s.heap sc st env ow),aD (aC P0 J.w) A (eval (.Name x p) env) (fun v s'=>s'=s/\Rd J W.F W.as d v) E s:=by iterate 9
 rcases Ah e with ⟨q,e⟩ | h
 ·obtain ⟨v,hv,hr⟩:=EY fx e;exact bk R.kind (R.global q) (hv.load R hw ⟨rfl,hr _ _⟩) (oP hx).1
 ·obtain ⟨v,h1,h2⟩:=R.vars x d h;exact bq (cr h1 R.kind hx ⟨rfl,h2⟩) (oP hx).1
theorem JK:∀ {x:Str} {p:Pos} {d:D} (fx:Fx J) (e:nameD P0 sc st x=some d) (hx:mt x=true) (hw:Qs J W s) (R:Qq J W s.heap sc st env ow),Ex J A (eval (.Name x p) env) X W s (li J d W.H):=by iterate 8 exact (af (vT fx e hx hw R) (fun _ _ h=>⟨W,by rw [h.1];exact Qp.refl hw,rfl,h.2⟩) fun _ _ h=>h)
theorem Dt:∀ {m:Str} {a d:D} {ds:List D} {g g':G} (e:methD m a ds g=some (d,g')) (ha:∀ i,a≠ .loc i),g'=g/\∃ T id,PlainAttrs T/\Slot T m id/\typeOf (.builtin id)=pure (.type "method_descriptor")/\
   (∀ {W s va},Rd J W.F W.as a va->Qs J W s->s.TypeIs va T/\∀ b,va= .ref b->∃ ob,s.heap.get? b=some ob/\ob.dict=none)/\
   ∀ {A W s va vs},Rd J W.F W.as a va->Qt J W.F W.as ds vs->Qs J W s->Ex J A (call (.builtin id) (va::vs)) [] W s (li J d W.H):=by iterate 8
 cases a with
 | str x=>
  have WD:∀ {W s va},Rd J W.F W.as (.str x) va->Qs J W s->s.TypeIs va "str" /\∀ b,va= .ref b->∃ ob,s.heap.get? b=some ob/\ob.dict=none:=fun h _=>by obtain ⟨_,t,rfl⟩:=h;exact ⟨rfl,fun b q=>by cases q⟩
  replace e:zP m x ds g=_:=e;unfold zP at e;split at e
  ·rename_i hm;cases eq_of_beq hm;replace e:=Aa e;obtain ⟨d0,h1,xs,h2,r,h3,d',h4,e⟩:=e;cases e;cases oX h1;cases pu h2;exact ⟨rfl,"str","str.join",gv,PySem.F.slot_str_join,PySem.F.type_str_join,WD,fun UH Vz hw=>El h3 h4 UH Vz hw⟩
  ·split at e
   ·rename_i hm;cases eq_of_beq hm;replace e:=qO e;obtain ⟨_,h1,d',h2,e⟩:=e;cases e;cases oY h1;exact ⟨rfl,"str","str.split",gv,jV,PySem.F.type_str_split,WD,fun UH Vz hw=>by rw [sV Vz];exact Cv h2 UH hw⟩
   ·split at e
    ·rename_i hm;cases eq_of_beq hm;replace e:=vK e;obtain ⟨d0,h1,xs,h2,c,h3,e⟩:=e;cases e;cases oX h1;cases oO h2;cases oX h3;exact ⟨rfl,"str","str.count",gv,PySem.F.slot_str_count,PySem.F.type_str_count,WD,fun UH Vz hw=>Cf UH Vz hw⟩
    ·cases e
 | lst x=>
  replace e:(if m==("count" :Str) then _ else _)=_:=e;split at e
  ·rename_i hm;cases eq_of_beq hm;replace e:=vK e;obtain ⟨d0,h1,i,h2,l,h3,e⟩:=e;cases e;cases oX h1;cases be h2;refine ⟨rfl,"list","list.count",cI,PySem.F.slot_list_count,PySem.F.type_list_count,fun h hw=>?_,fun UH Vz hw=>Ai h3 UH Vz hw⟩;obtain ⟨hl,a1,ws,n1,s1,rfl,e1,r1⟩:=io h;exact ⟨⟨_,hw.sub _ _ e1,rfl⟩,fun b q=>by cases q;exact ⟨_,hw.sub _ _ e1,rfl⟩⟩
  ·cases e
 | QH x=>
  replace e:(if m==("get" :Str) then _ else _)=_:=e;split at e
  ·rename_i hm;cases eq_of_beq hm;replace e:=vK e;obtain ⟨⟨d0,d1⟩,h1,i,h2,l,h3,e⟩:=e;cases e;cases rB h1;cases be h2;cases be h3;refine ⟨rfl,"dict","dict.get",jJ,eI,j8,fun h hw=>?_,fun UH Vz hw=>Hn UH Vz hw⟩;obtain ⟨hl,a,rfl,hn,p⟩:=h;obtain ⟨ws,hm,q⟩:=TP.dictOf p hw.sub;exact ⟨fu hm.mapOf,fun b q=>kp hm.mapOf b q⟩
  ·cases e
 | int x=>
  replace e:(if m==("bit_length" :Str) then _ else _)=_:=e;split at e
  ·rename_i hm;cases eq_of_beq hm;replace e:=bi e;obtain ⟨_,h1,e⟩:=e;cases e;cases oY h1;refine ⟨rfl,"int","int.bit_length",PySem.F.plainAttrs_int,PySem.F.slot_int_bit_length,PySem.F.type_int_bit_length,fun h hw=>?_,fun UH Vz hw=>by rw [sV Vz];exact DE UH hw⟩;obtain ⟨t,rfl⟩:=h;exact ⟨rfl,fun b q=>by cases q⟩
  ·cases e
 | loc i=>exact absurd rfl (ha _)
 | _=>cases e
theorem pE:∀ {f:ag} {trees:List (Bool×Sem ag)} {Q:Args->ah->Prop} {E:ag->ah->Prop} (hp:trees.any (·.1)=false) (h:aD (aC P0 J.w) A (eM trees) (fun vs s'=>Q ⟨vs,[]⟩ s') E s),aD (aC P0 J.w) A (evalArgs f true trees []) Q E s:=by iterate 6
 cases trees with
 | nil=>unfold evalArgs;show aD _ A (eM [] >>=_) _ _ s;refine ae (af h (fun vs s' h'=>?_) fun _ _ x=>x);refine bu ?_;exact ae (ay (ae (ay (ay h'))))
 | cons p r=>
  obtain ⟨b,x⟩:=p;have:b=false:=by simp at hp;exact hp.1
  subst this;exact Calls.evalArgs_plain h
theorem pk:∀ {fv:ag} {f:Str} {pos:Pos} {trees:List (Bool×Sem ag)} {first:List ag} {Q:ag->ah->Prop} {E:ag->ah->Prop} (c:pV J f fv) (hp:trees.any (·.1)=false) (h:aD (aC P0 J.w) A (eM trees) (fun vs s'=>H0 J s'.heap/\aD (aC P0 J.w) A (call fv (first++vs)) Q E s') E s),aD (aC P0 J.w) A (callWith pos fv first trees []) Q E s:=by iterate 10 exact (c9 (by simp [hp]) c.2 (pE hp h))
theorem ii:∀ {id:String} {pos:Pos} {trees:List (Bool×Sem ag)} {first:List ag} {Q:ag->ah->Prop} {E:ag->ah->Prop} (hp:trees.any (·.1)=false) (h:aD (aC P0 J.w) A (eM trees) (fun vs s'=>aD (aC P0 J.w) A (call (.builtin id) (first++vs)) Q E s') E s),aD (aC P0 J.w) A (callWith pos (.builtin id) first trees []) Q E s:=by iterate 8 exact (Calls.callWith_builtin hp (pE hp h))
theorem wU:∀ {sc:aX} {st:St} {e:Expr} {p:Pos} {g:G} {r:D×G},ceE P0 n sc st (.Starred e p) g≠some r:=by iterate 6 intro h;cases n<;>cases h
theorem pI:∀ {sc:aX} {st:St} {e:Expr} {es:List Expr} {g:G} {r:D×G} (h:ceE P0 n sc st e g=some r),eL (e::es) env=(false,eval e env)::eL es env:=by iterate 7 cases e<;>first | rfl | exact absurd h wU
theorem vt:∀ {sc:aX} {st:St} {pos:Pos},∀ {n:Nat} {es:List Expr} {g:G} {r:List D×G},ceEs P0 n sc st es g=some r->(kC pos (eL es env)).any (·.1)=false:=by iterate 3
 intro n;induction n with
 | zero=>intro es g r h;cases h
 | succ n ih=>intro es g r h;cases es with | nil=>rfl | cons e es=>obtain ⟨a,h1,b,h2,h3⟩:=qO h;rw [pI h1];show (false ||(kC pos (eL es env)).any (·.1))=false;rw [ih h2];rfl
theorem qK:∀ {l:List (Bool×Sem ag)} (h:l.any (·.1)=false),(l.all fun x=>!x.1)=true:=by iterate 2 rw [aj];intro p hp;rw [lX] at h;simpa using h p hp
theorem Qs.Uy:∀ (fx:Fx J) (hw:Qs J W s),xE J s.heap:=by iterate 2 exact (fx.Uy _ hw.QB)
theorem ua:∀ {value slice:Expr} {a:D} {va:ag} {i:ag} {Q:ag->ah->Prop} {E:ag->ah->Prop} (ha:(∃ x,a= .lst x)\/∃ x,a= .str x) (r:Rd J W.F W.as a va) (hw:Qs J W s) (h:aD (aC P0 J.w) A (mO va i) Q E s),aD (aC P0 J.w) A (jh value slice va i) Q E s:=by iterate 11
 rcases ha with ⟨x,rfl⟩ | ⟨x,rfl⟩
 ·obtain ⟨hl,a1,ws,n1,s1,rfl,e1,r1⟩:=io r;obtain ⟨ops,ho⟩:=jp slice (.ref a1) i;exact hO (T:="list") ⟨_,hw.sub _ _ e1,rfl⟩ dR.lookup h ho
 ·obtain ⟨_,t,rfl⟩:=r;obtain ⟨ops,ho⟩:=jp slice (.str ⟨x.toArray⟩ t) i;exact hO (T:="str") rfl jy.lookup h ho
theorem BL:∀ {value slice:Expr} {a d:D} {l h:Option Int} {va:ag} {i:ag} {Q:ag->ah->Prop} {E:ag->ah->Prop} (e:xz W.H a l h=some d) (r:Rd J W.F W.as a va) (hw:Qs J W s) (hq:aD (aC P0 J.w) A (mO va i) Q E s),aD (aC P0 J.w) A (jh value slice va i) Q E s:=by iterate 14 cases a with | lst x=>exact ua (.inl ⟨_,rfl⟩) r hw hq | str x=>exact ua (.inr ⟨_,rfl⟩) r hw hq | loc j=>replace e:=qO e;obtain ⟨o,hj,cs,h1,e⟩:=e;cases sJ h1;obtain ⟨a,fp,rfl,Vv,Ut,hc,rfl,ss,⟨o,n,e1,e2,e3,e4⟩,TF⟩:=sU hw hj r;obtain ⟨ops,ho⟩:=jp slice (.ref a) i;exact hO (T:="list") ⟨_,e1,e2⟩ dR.lookup hq ho | _=>cases e
theorem EZ:∀ {a d:D} (e:I8 a=some d),(∃ x,a= .lst x)\/∃ x,a= .str x:=by iterate 3 obtain ⟨x,h,_⟩:=bi e;exact .inl ⟨x,pu h⟩
theorem Qx.units:∀ {k:Nat} (h:Qx k A),A.units+400<mj:=by iterate 2 have:=h.2.2;omega
theorem p0:∀ {x:Str} {xp:Pos} {name:Str},attributeBase (.Name x xp) name env (eval (.Name x xp) env)=eval (.Name x xp) env:=by iterate 3 exact (rfl)
theorem zg:∀ {op:CmpOp} {r:Expr} {g:G} {q:D×G} (h:ceE P0 n sc st r g=some q),behindInMarks op r=false:=by iterate 5 cases r<;>first | rfl | exact absurd h wQ
theorem uw:∀ (fx:Fx J) (ok:Ok J n),∀ {sc st e g d g' env ow A W s Qm pos QF first},ceE P0 (n+1) sc st e g=some (d,g')->W.H=g->Qs J W s->Qq J W s.heap sc st env ow->Qx (n+1) A->vY env e=some (Qm,pos,QF,first)->zI J A W s e Qm env pos QF first d g':=by iterate 2
 intro sc st e g d g' env ow A W s XB ad9 Zw abU h hg hw R Q4 hp;have hA:Qx n A:=Q4.le (bV n);replace h:AA P0 (fs P0 n) sc st n g (ev e)=some (d,g'):=h;generalize ev e=v at h;cases v with
 | lc elt t it ifs Qm pos=>
  replace h:=Ph h;obtain ⟨u,h1,⟨dI,gI⟩,h2,ds,h3,⟨QN,gF,rr⟩,h4,d',h5,h6⟩:=h;cases h6;cases hp;have h1:=bx.mp (dl h1);obtain ⟨hl,rfl⟩:=tG h5;refine (wm (pos:=it.pos) fx ok (e:= .ListComp elt [⟨t,it,ifs,0⟩] XB pos) (cg:=⟨t,it,ifs,0⟩) (cgs:=[]) (o0:= .lst []) rfl rfl (.inl ⟨rfl,rfl⟩) h1.1 h2 h3 hg hw R hA fun W1 s1 C Da I St s4 k1 Ra hit K c=>?_);have loop:=BG (it:=it) (pos:=pos) ok K hA (t:=t) (ifs:=ifs) (elt:=elt) (fun d acc g r e=>by
   obtain ⟨ρ,e1,⟨b,g1⟩,e2,e3⟩:=qO e;refine ⟨ρ,b,g1,e1,e2,?_⟩;split at e3
   ·rename_i hb;obtain ⟨⟨x,g2⟩,e4,e5⟩:=bi e3;cases e5;exact .inl ⟨hb,x,g2,e4,rfl⟩
   ·rename_i hb;cases e3;exact .inr ⟨l5.mpr hb,rfl⟩) rfl rfl h1.2 hit hl h4 c Ra
  exact lS loop (hit.self A W1 s4 ds _ _ hA.1 c.it loop)
 | SW elt t it t2 it2 Qm pos=>replace h:=Ph h;obtain ⟨u,h1,⟨dI,gI⟩,h2,ds,h3,⟨QN,gF,rr⟩,h4,d',h5,h6⟩:=h;cases h6;cases hp;have h1:=dl h1;simp only [ai] at h1;obtain ⟨⟨⟨c1,c2⟩,c3⟩,c4⟩:=h1;obtain ⟨hl,rfl⟩:=tG h5;refine (wm (pos:=it.pos) fx ok (e:=SW elt t it t2 it2 XB pos) (cg:=⟨t,it,[],0⟩) (cgs:=[⟨t2,it2,[],0⟩]) (o0:= .lst []) rfl rfl (.inl ⟨rfl,rfl⟩) c1 h2 h3 hg hw R hA fun W1 s1 C Da I St s4 k1 Ra hit K c=>?_);have loop:=Bx (it:=it) (pos:=pos) ok K hA (t:=t) (t2:=t2) (it2:=it2) (elt:=elt) (fun d acc g r e=>by obtain ⟨ρ,e1,⟨d2,g1⟩,e2,UI,e3,⟨Sm,g2,x⟩,e4,e5⟩:=Aa e;cases e5;refine ⟨ρ,d2,g1,UI,Sm,g2,x,_,e1,e2,e3,?_,e4,rfl⟩;intro d2 acc g r e;obtain ⟨ρ2,e1,⟨y,g3⟩,e2,e3⟩:=qO e;cases e3;exact ⟨ρ2,y,g3,e1,e2,rfl⟩) rfl rfl c2 c3 c4 hit hl h4 c Ra;exact lS loop (hit.self A W1 s4 ds _ _ hA.1 c.it loop)
 | dc kx vx t it ifs Qm pos=>
  replace h:=Ph h;obtain ⟨u,h1,⟨dI,gI⟩,h2,ds,h3,⟨QN,gF,rr⟩,h4,u',h5,h6⟩:=h;cases h6;cases hp;have h1:=bx.mp (dl h1);have hl:=of_decide_eq_true (dl h5);refine (wm (pos:=it.pos) fx ok (e:= .DictComp kx vx [⟨t,it,ifs,0⟩] XB pos) (cg:=⟨t,it,ifs,0⟩) (cgs:=[]) (o0:= .QH []) rfl rfl (.inr ⟨rfl,rfl⟩) h1.1 h2 h3 hg hw R hA fun W1 s1 C Da I St s4 k1 Ra hit K c=>?_);have loop:=Cp (it:=it) (pos:=pos) ok K hA (t:=t) (ifs:=ifs) (kx:=kx) (vx:=vx) (fun d acc g r e=>by
   obtain ⟨ρ,e1,⟨b,g1⟩,e2,e3⟩:=qO e;refine ⟨ρ,b,g1,e1,e2,?_⟩;split at e3
   ·rename_i hb;obtain ⟨⟨x,g2⟩,e4,⟨y,g3⟩,e5,i,e6,j,e7,e8⟩:=Aa e3;cases e8;cases be e6;cases be e7;exact .inl ⟨hb,i,g2,j,g3,e4,e5,rfl⟩
   ·rename_i hb;cases e3;exact .inr ⟨l5.mpr hb,rfl⟩) rfl rfl h1.2 hit hl h4 c Ra
  exact codeAny_compStart_dict loop (hit.self A W1 s4 ds _ _ hA.1 c.it loop)
 | other e=>cases h
 | _=>cases hp
theorem MB:∀ (fx:Fx J) (lx:Lx J n) (ok:Ok J n) (call:wh J n),∀ {sc st e g d g' env ow A W s},ceE P0 (n+1) sc st e g=some (d,g')->W.H=g->Qs J W s->Qq J W s.heap sc st env ow->Qx (n+1) A->Ex J A (eval e env) [] W s (li J d g'):=by iterate 4
 intro sc st e g d g' env ow A W s h hg hw R Q4;have hA:Qx n A:=Q4.le (bV n);have h0:=h;replace h:AA P0 (fs P0 n) sc st n g (ev e)=some (d,g'):=h;generalize ev e=v at h;cases v with
 | const c k pos=>replace h:=bi h;obtain ⟨a,h1,h2⟩:=h;cases h2;subst hg;cases c with | none=>cases h1;exact mK ⟨W,Qp.refl hw,rfl,rfl⟩ | bool b=>cases h1;exact gc ⟨W,Qp.refl hw,rfl,rfl⟩ | int i=>cases h1;exact bO (nw hw) | str x=>obtain ⟨hl,rfl⟩:=vJ h1;refine cK ?_;have z:=ug (t:=s.toks) (tk:=s.toks+1) (X:=[]) hw hl;rw [ig] at z;exact z | _=>cases h1
 | name x pos=>replace h:=qO h;obtain ⟨u,h1,d',h2,h3⟩:=h;cases h3;subst hg;exact JK fx h2 (dl h1) hw R
 | bin l op r pos=>replace h:=vK h;obtain ⟨⟨a,g1⟩,h1,⟨b,g2⟩,h2,d',h3,h4⟩:=h;cases h4;refine hH (Ex.into (ok.e h1 hg hw R hA) fun va W1 s1 k1 p1=>Ex.into (ok.e h2 p1.1 k1.ok (R.QG k1) hA) fun vb W2 s2 k2 p2=>?_);exact Ex.into (xk (X:=[]) h3 (p1.2.mono k2.le k2.as) p2.2 k2.ok) fun v W3 s3 k3 p3=>⟨W3,(k1.Qn k2).Qn k3,p3.1.trans p2.1,p3.2⟩
 | un op x pos=>replace h:=qO h;obtain ⟨⟨a,g1⟩,h1,d',h3,h4⟩:=h;cases h4;refine wpAny_UnaryOp (Ex.into (ok.e h1 hg hw R hA) fun va W1 s1 k1 p1=>?_);exact Ex.into (Ic (X:=[]) h3 p1.2 k1.ok) fun v W3 s3 k3 p3=>⟨W3,k1.Qn k3,p3.1.trans p1.1,p3.2⟩
 | ifx t b o pos=>
  replace h:=bi h;obtain ⟨⟨c,g1⟩,h1,h2⟩:=h;refine wpAny_IfExp (Ex.into (ok.t h1 hg hw R hA) fun b W1 s1 k1 p1=>?_);cases p1.1;split at h2
  ·rename_i hb;rw [if_pos hb];exact Ex.into (ok.e h2 p1.2 k1.ok (R.QG k1) hA) fun v W2 s2 k2 r=>⟨W2,k1.Qn k2,r⟩
  ·rename_i hb;rw [if_neg hb];exact Ex.into (ok.e h2 p1.2 k1.ok (R.QG k1) hA) fun v W2 s2 k2 r=>⟨W2,k1.Qn k2,r⟩
 | RV vs pos=>rw [arm_eval_BoolOp];exact ok.RV h hg hw R hA
 | cmp l op r pos=>replace h:=vK h;obtain ⟨⟨a,g1⟩,h1,⟨b,g2⟩,h2,c,h3,h4⟩:=h;cases h4;refine wpAny_Compare1 (Ex.into (ok.e h1 hg hw R hA) fun va W1 s1 k1 p1=>Ex.into (ok.e h2 p1.1 k1.ok (R.QG k1) hA) fun vb W2 s2 k2 p2=>?_) (zg h2);exact Ex.into (Gp (X:=[]) hA.units h3 (p1.2.mono k2.le k2.as) p2.2 k2.ok (k2.ok.Uy fx)) fun v W3 s3 k3 p3=>⟨W3,(k1.Qn k2).Qn k3,p3.1.trans p2.1,p3.2⟩
 | tup es k pos=>
  replace h:=qO h;obtain ⟨⟨ds,g1⟩,h1,u,h2,h3⟩:=h;cases h3;have hl:=of_decide_eq_true (dl h2);refine wpAny_Tuple (Ex.into (ok.es h1 hg hw R hA).2.2 fun vs W1 s1 k1 p1=>⟨?_,?_⟩)
  ·rw [p1.2.length];exact bw hl pt
  ·obtain ⟨W2,k2,Sa,r2⟩:=Ds (X:=[]) (tk:=s1.toks) k1.ok p1.2 hl rfl;exact ⟨W2,k1.Qn k2,Sa.trans p1.1,r2⟩
 | lst es pos=>
  replace h:=qO h;obtain ⟨⟨ds,g1⟩,h1,d',h2,h3⟩:=h;cases h3;obtain ⟨hl,rfl⟩:=tG h2;refine gU (Ex.into (ok.es h1 hg hw R hA).2.2 fun vs W1 s1 k1 p1=>⟨?_,?_⟩)
  ·rw [p1.2.length];exact bw hl pt
  ·obtain ⟨W2,k2,Sa,r2⟩:=sH (X:=[]) (tk:=s1.toks) k1.ok p1.2 hl rfl;exact ⟨W2,k1.Qn k2,Sa.trans p1.1,r2⟩
 | slice v lo hi p1 p2=>
  replace h:=Aa h;obtain ⟨⟨a,g1⟩,h1,⟨l,g2⟩,h2,⟨hh,g3⟩,h3,d',h4,h5⟩:=h;cases h5;refine jH (Ex.into (ok.e h1 hg hw R hA) fun va W1 s1 k1 p1=>?_);refine wpAny_Slice (Ex.into (ok.opt h2 p1.1 k1.ok (R.QG k1) hA) fun vl W2 s2 k2 p2=>?_);refine Ex.into (ok.opt h3 p2.1 k2.ok ((R.QG k1).QG k2) hA) fun vh W3 s3 k3 p3=>?_;refine gz ?_;have k4:=Qp.push (X:=[]) (tk:=s3.toks) k3.ok {cls:= .type "slice",data:= .fields #[vl,vh,.none]};have ra4:=((p1.2.mono k2.le k2.as).mono k3.le k3.as)
  cases p3.1;refine BL h4 ra4 k4.ok ?_;exact Ex.into (DI (X:=[]) h4 ra4 p2.2 p3.2 k4.ok ⟨_,ax _ rfl,rfl,rfl⟩) fun v W5 s5 k5 p5=>⟨W5,(((k1.Qn k2).Qn k3).Qn k4).Qn k5,p5.1,p5.2⟩
 | rev v k p1 p2 p3 p4=>replace h:=qO h;obtain ⟨⟨a,g1⟩,h1,d',h4,h5⟩:=h;cases h5;refine jH (Ex.into (ok.e h1 hg hw R hA) fun va W1 s1 k1 p1=>?_);refine wpAny_Slice (gz (gz (nh (wpAny_UnaryOp (bO ?_)))));refine jo ?_;have k4:=Qp.push (X:=[]) (tk:=s1.toks+1+1) k1.ok {cls:= .type "slice",data:= .fields #[.none,.none,.int (-1) (s1.toks+1)]};refine ua (EZ h4) p1.2 k4.ok ?_;exact Ex.into (Iy (X:=[]) h4 p1.2 k4.ok ⟨_,ax _ rfl,rfl,rfl⟩) fun v W5 s5 k5 p5=>⟨W5,(k1.Qn k4).Qn k5,p5.1.trans p1.1,p5.2⟩
 | sub v i pos=>replace h:=vK h;obtain ⟨⟨a,g1⟩,h1,⟨k,g2⟩,h2,d',h3,h4⟩:=h;cases h4;refine jH (Ex.into (ok.e h1 hg hw R hA) fun va W1 s1 k1 p1=>Ex.into (ok.e h2 p1.1 k1.ok (R.QG k1) hA) fun vk W2 s2 k2 p2=>?_);exact Ex.into (JS (X:=[]) h3 (p1.2.mono k2.le k2.as) p2.2 k2.ok (k2.ok.Uy fx)) fun v W3 s3 k3 p3=>⟨W3,(k1.Qn k2).Qn k3,p3.1.trans p2.1,p3.2⟩
 | lc elt t it ifs Qm pos=>rw [eval_ListComp];exact sY (pos:=it.pos) hw (uw fx ok h0 hg hw R Q4 rfl)
 | SW elt t it t2 it2 Qm pos=>rw [eval_ListComp];exact sY (pos:=it.pos) hw (uw fx ok h0 hg hw R Q4 rfl)
 | dc kx vx t it ifs Qm pos=>rw [arm_eval_DictComp];exact sY (pos:=it.pos) hw (uw fx ok h0 hg hw R Q4 rfl)
 | attr x xp a pos=>replace h:=Aa h;obtain ⟨⟨d1,g1⟩,h2,l,h3,o,h4,ln,h5,h6⟩:=h;cases h6;rw [jk,p0];refine ae (Ex.into (ok.e h2 hg hw R hA) fun va W1 s1 k1 p1=>ae (bt (ae (bu ?_))));cases (show d1=_ from sZ h3);cases p1.1;exact Ex.into (lx.attr h4 h5 p1.2 k1.ok (Q4.le (by omega))) fun v W2 s2 k2 r2=>ae (ay (ay ⟨W2,k1.Qn k2,r2⟩))
 | call f fp as pos=>replace h:=qO h;obtain ⟨u,h1,⟨ds,g1⟩,h2,h3⟩:=h;have h1:=bx.mp (dl h1);obtain ⟨fv,cf,hc⟩:=call h3;have es:=ok.es (pos:=pos) h2 hg hw R hA;refine bH (bk R.kind (R.global h1.1) (cf.1.load R hw ?_) (oP h1.2).1);refine pk (first:=[]) cf es.1 (Ex.into es.2.2 fun vs W1 s1 k1 p1=>⟨k1.ok.QB,?_⟩);exact Ex.into (hc hA p1.1 p1.2 k1.ok) fun v W2 s2 k2 r2=>⟨W2,k1.Qn k2,r2⟩
 | Te x xp m ap as cp=>
  replace h:(match tX st x with | some QC=>_ | none=>_)=some (d,g'):=h;cases ho:tX st x with
  | some QC=>
   rw [ho] at h;replace h:=vK h;obtain ⟨u,h1,⟨ds,g1⟩,h2,d',h3,h4⟩:=h;cases h4;have h1:=dl h1;simp only [ai] at h1;obtain ⟨⟨⟨c1,c2⟩,c3⟩,c4⟩:=h1;cases eq_of_beq c1;have Rn:=wz ho;have es:=ok.es (pos:=cp) h2 hg hw R hA;obtain ⟨_,a,aaY,S6,hv,S5⟩:=R.own _ _ Rn;refine cA p0 ?_ c2 rfl (bq (cr hv R.kind c4 ?_) (oP c4).1)
   ·simp only [ai];exact ⟨⟨qK es.1,rfl⟩,c3⟩
   ·obtain ⟨hl,Vd,ws,Ww,hdk⟩:=S5;refine ⟨"dict","dict.get",jJ,eI,j8,fu Ww.mapOf,fun b q=>kp Ww.mapOf b q,?_⟩;refine ii es.1 (Ex.into es.2.2 fun vs W1 s1 k1 p1=>?_);obtain ⟨_,a',Yn,_,_,Xb⟩:=(R.QG k1).own _ _ Rn;cases aaY.symm.trans Yn;obtain ⟨_,_,ws1,Vq,abo⟩:=Xb;replace h3:=vK h3;obtain ⟨⟨d0,d1⟩,q0,k,q1,dd,q2,h3⟩:=h3;cases h3;cases be q1;cases be q2;cases (show ds=_ from rB q0);obtain ⟨v,u,rfl,⟨t1,rfl⟩,t2,rfl⟩:=uF p1.2;have q:=rR abo k;refine call_meetsIn eI (fu Vq.mapOf) jW (jK _ _ _) (lR (IK J) (k:=k) (key:= .int k t1) a (decide_eq_true rfl) Vd _) ⟨_,Vq.mapOf,?_⟩;have fin:∀ (i:Int) (t:Tok),∃ W',Qp J [] W s W' {s1 with toks:=s1.toks+1}/\li J (.int i) W1.H (.int i t) W' {s1 with toks:=s1.toks+1}:=fun i t=>by
     obtain ⟨W2,k2,r2⟩:=nw (X:=[]) (i:=i) (t:=t) (tk:=s1.toks+1) k1.ok;exact ⟨W2,k1.Qn k2,r2⟩
    rw [show g1=W1.H from p1.1.symm];cases e:QC.lookup k with | none=>rw [q.2 e];exact fin _ _ | some i=>obtain ⟨t3,e3⟩:=q.1 i e;rw [e3];exact fin _ _
  | none=>
   rw [ho] at h;replace h:=Aa h;obtain ⟨u,h1,⟨a,g1⟩,h2,⟨ds,g2⟩,h3,u',h5,h4⟩:=h;have h1:=dl h1;simp only [ai] at h1;obtain ⟨⟨c2,c3⟩,clv⟩:=h1;by_cases Ti:∃ i,a= .loc i
   ·obtain ⟨i,rfl⟩:=Ti;rw [jj,p0];refine ae (Ex.into (ok.e h2 hg hw R hA) fun va W1 s1 k1 p1=>ae (bt ?_));have es:=ok.es (pos:=cp) h3 p1.1 k1.ok (R.QG k1) hA;cases p1.1;exact Ex.into (lx.Te h4 (of_decide_eq_true clv) (eq_of_beq (dl h5)) p1.2 k1.ok (Q4.le (by omega)) es.1 (of_decide_eq_true c3) c2 es.2.2) fun v W2 s2 k2 r2=>⟨W2,k1.Qn k2,r2⟩
   ·obtain ⟨hgg,T,id,f1,f2,f3,f4,f5⟩:=Dt h4 fun i q=>Ti ⟨i,q⟩;refine cA p0 ?_ c2 rfl (Ex.into (ok.e h2 hg hw R hA) fun va W1 s1 k1 p1=>?_)
    ·simp only [ai];exact ⟨⟨qK (vt h3),rfl⟩,c3⟩
    ·have es:=ok.es (pos:=cp) h3 p1.1 k1.ok (R.QG k1) hA;refine ⟨T,id,f1,f2,f3,(f4 p1.2 k1.ok).1,(f4 p1.2 k1.ok).2,?_⟩;refine ii es.1 (Ex.into es.2.2 fun vs W2 s2 k2 p2=>?_);exact Ex.into (f5 (p1.2.mono k2.le k2.as) p2.2 k2.ok) fun v W3 s3 k3 r3=>⟨W3,(k1.Qn k2).Qn k3,(r3.1.trans p2.1).trans hgg.symm,r3.2⟩
 | Wg x k p1 m ap as cp=>
  replace h:=qO h;obtain ⟨u,h1,⟨ds,g1⟩,h2,h3⟩:=h;have h1:=dl h1;simp only [ai] at h1;obtain ⟨⟨c2,c3⟩,c4⟩:=h1;obtain ⟨hgg,T,id,f1,f2,f3,f4,f5⟩:=Dt h3 fun i q=>by cases q
  refine cA rfl ?_ c2 rfl (cK ?_)
  ·simp only [ai];exact ⟨⟨qK (vt h2),rfl⟩,c3⟩
  ·have k1:=Qp.toks (X:=[]) (tk:=s.toks+1) hw;have ra:Rd J W.F W.as (.str x.cps.toList) (.str x s.toks):=⟨of_decide_eq_true c4,s.toks,by rw [ig]⟩
   have es:=ok.es (pos:=cp) h2 hg k1.ok (R.QG k1) hA;refine ⟨T,id,f1,f2,f3,(f4 ra k1.ok).1,(f4 ra k1.ok).2,?_⟩;refine ii es.1 (Ex.into es.2.2 fun vs W2 s2 k2 p2=>?_);exact Ex.into (f5 (ra.mono k2.le k2.as) p2.2 k2.ok) fun v W3 s3 k3 r3=>⟨W3,(k1.Qn k2).Qn k3,(r3.1.trans p2.1).trans hgg.symm,r3.2⟩
 | other e=>cases h
theorem zk:∀ {d:D} {b:Bool} {v:ag} {Q:Bool->ah->Prop} {E:ag->ah->Prop} (h:sX d=some b) (r:Rd J W.F W.as d v) (q:Q b s),aD (aC P0 J.w) A (truthy v) Q E s:=by iterate 8 cases pU h;cases r;exact eU q
theorem zF:∀ {e:Expr} (h:Cm e=true),jT e env (eval e env)=(do let v <-eval e env;ky e.pos;lH [v] (truthy v)):=by iterate 2
 cases e with
 | UnaryOp op x p=>cases op<;>first | rfl | cases h
 | BoolOp=>cases h
 | IfExp=>cases h
 | Compare=>cases h
 | _=>rfl
theorem MA:∀ (fx:Fx J) (ok:Ok J n),∀ {sc st e g b g' env ow A W s},ceT P0 (n+1) sc st e g=some (b,g')->W.H=g->Qs J W s->Qq J W s.heap sc st env ow->Qx (n+1) A->Ex J A (jT e env (eval e env)) [] W s (fun c W' _=>c=b/\W'.H=g'):=by iterate 2
 intro sc st e g b g' env ow A W s h hg hw R Q4;have hA:Qx n A:=Q4.le (bV n);replace h:Kj P0 (fs P0 n) sc st g (tv e)=some (b,g'):=h;generalize tv e=v at h;cases v with
 | not x p=>replace h:=bi h;obtain ⟨⟨c,g1⟩,h1,h2⟩:=h;cases h2;exact wpAny_isTrue_Not (Ex.into (ok.t h1 hg hw R hA) fun c W1 s1 k1 p1=>⟨W1,k1,congrArg _ p1.1,p1.2⟩)
 | UO vs p=>exact mJ (ok.UO h hg hw R hA)
 | RV vs p=>exact mJ (ok.Tq h hg hw R hA)
 | cmp l op r p=>replace h:=vK h;obtain ⟨⟨a,g1⟩,h1,⟨b',g2⟩,h2,c,h3,h4⟩:=h;cases h4;refine ma (Ex.into (ok.e h1 hg hw R hA) fun va W1 s1 k1 p1=>Ex.into (ok.e h2 p1.1 k1.ok (R.QG k1) hA) fun vb W2 s2 k2 p2=>?_) (zg h2);refine Ex.into (Gp (X:=[]) hA.units h3 (p1.2.mono k2.le k2.as) p2.2 k2.ok (k2.ok.Uy fx)) fun v W3 s3 k3 p3=>?_;cases (show v=_ from p3.2);exact eU ⟨W3,(k1.Qn k2).Qn k3,rfl,p3.1.trans p2.1⟩
 | plain e hp=>replace h:=qO h;obtain ⟨⟨d,g1⟩,h1,c,h2,h3⟩:=h;cases h3;exact dP (Ex.into (ok.e h1 hg hw R hA) fun v W1 s1 k1 p1=>zk h2 p1.2 ⟨W1,k1,rfl,p1.1⟩) (zF hp)
 | other e=>cases h
theorem Jh:∀ (ok:Ok J n),∀ {sc st es g b g' env ow A W s},ceOr P0 (n+1) sc st es g=some (b,g')->W.H=g->Qs J W s->Qq J W s.heap sc st env ow->Qx (n+1) A->Ex J A (allTrue .Or es env) [] W s (fun c W' _=>c=b/\W'.H=g'):=by iterate 1
 intro sc st es g b g' env ow A W s h hg hw R Q4;have hA:Qx n A:=Q4.le (bV n);cases es with
 | nil=>cases h;exact wpAny_allTrue_Or_nil ⟨W,Qp.refl hw,rfl,hg⟩
 | cons e r=>
  replace h:=bi h;obtain ⟨⟨c,g1⟩,h1,h2⟩:=h;refine wpAny_allTrue_Or_cons (Ex.into (ok.t h1 hg hw R hA) fun c' W1 s1 k1 p1=>?_);cases p1.1;split at h2
  ·rename_i hb;rw [if_pos hb];cases h2;exact ⟨W1,k1,rfl,p1.2⟩
  ·rename_i hb;rw [if_neg hb];exact Ex.into (ok.UO h2 p1.2 k1.ok (R.QG k1) hA) fun c2 W2 s2 k2 r2=>⟨W2,k1.Qn k2,r2⟩
theorem Ea:∀ (ok:Ok J n),∀ {sc st es g b g' env ow A W s},ceAndT P0 (n+1) sc st es g=some (b,g')->W.H=g->Qs J W s->Qq J W s.heap sc st env ow->Qx (n+1) A->Ex J A (allTrue .And es env) [] W s (fun c W' _=>c=b/\W'.H=g'):=by iterate 1
 intro sc st es g b g' env ow A W s h hg hw R Q4;have hA:Qx n A:=Q4.le (bV n);cases es with
 | nil=>cases h;exact wpAny_allTrue_And_nil ⟨W,Qp.refl hw,rfl,hg⟩
 | cons e r=>
  replace h:=bi h;obtain ⟨⟨c,g1⟩,h1,h2⟩:=h;refine wpAny_allTrue_And_cons (Ex.into (ok.t h1 hg hw R hA) fun c' W1 s1 k1 p1=>?_);cases p1.1;split at h2
  ·rename_i hb;rw [if_pos hb];exact Ex.into (ok.Tq h2 p1.2 k1.ok (R.QG k1) hA) fun c2 W2 s2 k2 r2=>⟨W2,k1.Qn k2,r2⟩
  ·rename_i hb;rw [if_neg hb];cases h2;exact ⟨W1,k1,rfl,p1.2⟩
theorem HV:∀ (ok:Ok J n),∀ {sc st es g d g' pos env ow A W s},ceAnd P0 (n+1) sc st es g=some (d,g')->W.H=g->Qs J W s->Qq J W s.heap sc st env ow->Qx (n+1) A->Ex J A (boolOp pos .And (evalEach es env)) [] W s (li J d g'):=by iterate 1
 intro sc st es g d g' pos env ow A W s h hg hw R Q4;have hA:Qx n A:=Q4.le (bV n);cases es with
 | nil=>cases h
 | cons e r=>
  cases r with
  | nil=>exact ok.e h hg hw R hA
  | cons e2 r=>
   replace h:=qO h;obtain ⟨⟨d1,g1⟩,h1,b,h2,h3⟩:=h;show aD _ A (do
    let v <-eval e env
    ky pos
    let t <-lH [v] (truthy v)
    match BoolOp.And,t with
    | .And,false | .Or,true=>pure v
    | _,_=>boolOp pos .And (evalEach (e2::r) env)) _ _ s
   refine ae (Ex.into (ok.e h1 hg hw R hA) fun v W1 s1 k1 p1=>ae (bt (ae (bu (zk h2 p1.2 ?_)))));cases b with
   | true=>exact Ex.into (ok.RV h3 p1.1 k1.ok (R.QG k1) hA) fun c2 W2 s2 k2 r2=>⟨W2,k1.Qn k2,r2⟩
   | false=>cases h3;cases (show d1=_ from pU h2);exact ay ⟨W1,k1,p1.1,p1.2⟩
theorem Ly:∀ {sc:aX} {st:St},∀ {n:Nat} {es:List Expr} {g:G} {ds:List D} {g':G},ceEs P0 n sc st es g=some (ds,g')->es.length=ds.length:=by iterate 2
 intro n;induction n with
 | zero=>intro es g ds g' h;cases h
 | succ n ih=>intro es g ds g' h;cases es with | nil=>cases h;rfl | cons e es=>replace h:=qO h;obtain ⟨a,h1,⟨Z4,g1⟩,h2,h3⟩:=h;cases h3;exact congrArg (· +1) (ih h2)
theorem Ik:∀ (ok:Ok J n),∀ {sc st es g ds g' pos env ow A W s},ceEs P0 (n+1) sc st es g=some (ds,g')->W.H=g->Qs J W s->Qq J W s.heap sc st env ow->Qx (n+1) A->
  (kC pos (eL es env)).any (·.1)=false/\es.length=ds.length/\Ex J A (eM (kC pos (eL es env))) [] W s (fun vs W' _=>W'.H=g'/\Qt J W'.F W'.as ds vs):=by iterate 1
 intro sc st es g ds g' pos env ow A W s h hg hw R Q4;refine ⟨vt h,Ly h,?_⟩;have hA:Qx n A:=Q4.le (bV n);cases es with
 | nil=>cases h;rw [show eM (kC pos (eL [] env))=pure [] from rfl];exact ay ⟨W,Qp.refl hw,hg,rfl⟩
 | cons e r=>replace h:=qO h;obtain ⟨⟨d1,g1⟩,h1,⟨Z4,g2⟩,h2,h3⟩:=h;cases h3;refine aR (Ex.into (ok.e h1 hg hw R hA) fun v W1 s1 k1 p1=>?_) (pI h1);exact Ex.into (ok.es h2 p1.1 k1.ok (R.QG k1) hA).2.2 fun vs W2 s2 k2 p2=>⟨W2,k1.Qn k2,p2.1,v,vs,rfl,p1.2.mono k2.le k2.as,p2.2⟩
theorem E9:∀ (ok:Ok J n),∀ {sc st es g b g' env ow A W s},ceIfs P0 (n+1) sc st es g=some (b,g')->W.H=g->Qs J W s->Qq J W s.heap sc st env ow->Qx (n+1) A->
  Ex J A (forIn es true fun c r=>if r=true then do let ok <-jT c env (eval c env);pure (b9 ok) else pure (b9 r)) [] W s (fun c W' _=>c=b/\W'.H=g'):=by iterate 1
 intro sc st es g b g' env ow A W s h hg hw R Q4;have hA:Qx n A:=Q4.le (bV n);cases es with | nil=>cases h;rw [jY];exact ay ⟨W,Qp.refl hw,rfl,hg⟩ | cons e r=>replace h:=bi h;obtain ⟨_,h1,h⟩:=h;cases oY h1;rw [mG];rw [if_pos rfl];refine ae (ae (Ex.into (ok.t h hg hw R hA) fun c W1 s1 k1 r1=>ay ?_));dsimp only;rw [jY];exact ay ⟨W1,k1,r1⟩
theorem Go:∀ (ok:Ok J n),∀ {sc st o g i g' env ow A W s},ceOpt P0 (n+1) sc st o g=some (i,g')->W.H=g->Qs J W s->Qq J W s.heap sc st env ow->Qx (n+1) A->Ex J A (evalPart o env) [] W s (fun v W' _=>W'.H=g'/\RP i v):=by iterate 1 intro sc st o g i g' env ow A W s h hg hw R Q4;have hA:Qx n A:=Q4.le (bV n);cases o with | none=>cases h;exact gz ⟨W,Qp.refl hw,hg,rfl⟩ | some e=>replace h:=qO h;obtain ⟨⟨d,g1⟩,h1,j,h2,h3⟩:=h;cases h3;cases (show d=_ from be h2);exact nh (Ex.into (ok.e h1 hg hw R hA) fun v W1 s1 k1 p1=>⟨W1,k1,p1.1,p1.2⟩)
theorem IN:Ok J 0:=by iterate 0
 exact {
  comp:=fun h=>by cases h
  e:=fun h=>by cases h
  t:=fun h=>by cases h
  UO:=fun h=>by cases h
  Tq:=fun h=>by cases h
  RV:=fun h=>by cases h
  es:=fun h=>by cases h
  ifs:=fun h=>by cases h
  opt:=fun h=>by cases h}
theorem IZ:∀ (fx:Fx J) (lx:Lx J n) (ok:Ok J n) (call:wh J n),Ok J (n+1):=by iterate 4
 exact {
  comp:=uw fx ok
  e:=MB fx lx ok call
  t:=MA fx ok
  UO:=Jh ok
  Tq:=Ea ok
  RV:=HV ok
  es:=Ik ok
  ifs:=E9 ok
  opt:=Go ok}
end
structure Bs where
 W:Wd
 s:ah
 ow:List Addr
theorem _root_.Cz.m3:Nonempty Bs:=by iterate 0 exact (Cz.m1.elim fun w=>⟨⟨w,{},[]⟩⟩)
structure Run (J:Cx) (W0:Wd) (s0:ah) (B:Bs) (sc:aX) (env:Env) (st:St) (ow:List Addr) (W:Wd) (s:ah):Prop where
 RY:Qs J W0 s0
 tr:Qp J [] W0 s0 W s
 R:Qq J W s.heap sc st env ow
 fr:∀ a∈am env,s0.heap.get? a=none
 Td:∀ a∈ow,s0.heap.get? a=none
 le:PM.le B.W.F W.F
 as:Pre B.W.as W.as
 gens:∀ (i:Nat) (g:di),B.s.gens[i]? =some g->s.gens[i]? =some g
 there:∀ a o,B.s.heap.get? a=some o->∃ o',s.heap.get? a=some o'
 keep:∀ a,Apart J B.W B.s.heap a->a∉am env->a∉B.ow->Apart J W s.heap a/\∀ o,B.s.heap.get? a=some o->s.heap.get? a=some o
 Tc:∀ a∈ow,a∈B.ow\/B.s.heap.get? a=none
section
variable {J:Cx} {A:bf} {W W0 W':Wd} {s s0 s':ah} {sc:aX} {st st':St} {env:Env} {ow U2:List Addr} {n:Nat} {B:Bs} {X:List Addr}
theorem Run.start:∀ (RY:Qs J W0 s0) (tr:Qp J [] W0 s0 W s) (R:Qq J W s.heap sc st env ow) (fr:∀ a∈am env,s0.heap.get? a=none) (Td:∀ a∈ow,s0.heap.get? a=none),Run J W0 s0 ⟨W,s,ow⟩ sc env st ow W s:=by iterate 5 exact (⟨RY,tr,R,fr,Td,PM.le.refl _,Pre.refl _,fun _ _ e=>e,fun _ o e=>⟨o,e⟩,fun _ h _ _=>⟨h,fun _ e=>e⟩,fun _ h=> .inl h⟩)
theorem Run.rebase:∀ (r:Run J W0 s0 B sc env st ow W s),Run J W0 s0 ⟨W,s,ow⟩ sc env st ow W s:=by iterate 1 exact (Run.start r.RY r.tr r.R r.fr r.Td)
theorem Run.ok:∀ (r:Run J W0 s0 B sc env st ow W s),Qs J W s:=by iterate 1 exact (r.tr.ok)
theorem Run.RM:∀ {a:Addr} (r:Run J W0 s0 B sc env st ow W s) (h:s.heap.get? a=none),B.s.heap.get? a=none:=by iterate 3 cases e:B.s.heap.get? a with | none=>rfl | some o=>obtain ⟨o',h'⟩:=r.there a o e;rw [h] at h';cases h'
theorem Run.join:∀ (r:Run J W0 s0 B sc env st ow W s) (q:Run J W0 s0 ⟨W,s,ow⟩ sc env st' U2 W' s'),Run J W0 s0 B sc env st' U2 W' s':=by iterate 2
 exact {
  RY:=q.RY
  tr:=q.tr
  R:=q.R
  fr:=q.fr
  Td:=q.Td
  le:=r.le.trans q.le
  as:=r.as.trans q.as
  gens i g e:=q.gens i g (r.gens i g e)
  there a o e:=by obtain ⟨o1,e1⟩:=r.there a o e;exact q.there a o1 e1
  keep a h1 h2 h3:=by
   obtain ⟨k1,k2⟩:=r.keep a h1 h2 h3;obtain ⟨k3,k4⟩:=q.keep a k1 h2 (fun hm=>by
    rcases r.Tc a hm with z | z
    ·exact h3 z
    ·obtain ⟨_,_,_,o,e⟩:=h1;rw [z] at e;cases e)
   exact ⟨k3,fun o e=>k4 o (k2 o e)⟩
  Tc a h:=by
   rcases q.Tc a h with z | z
   ·exact r.Tc a z
   ·exact .inr (r.RM z)}
theorem Run.expr:∀ (r:Run J W0 s0 B sc env st ow W s) (t:Qp J [] W s W' s'),Run J W0 s0 B sc env st ow W' s':=by iterate 2
 exact {
  RY:=r.RY
  tr:=r.tr.Qn t
  R:=r.R.QG t
  fr:=r.fr
  Td:=r.Td
  le:=r.le.trans t.le
  as:=r.as.trans t.as
  gens i g e:=t.gens i g (r.gens i g e)
  there a o e:=by obtain ⟨o1,e1⟩:=r.there a o e;exact t.there a o1 e1
  keep a h1 h2 h3:=by obtain ⟨k1,k2⟩:=r.keep a h1 h2 h3;exact ⟨k1.keep t,fun o e=>k1.at t (by simp) o (k2 o e)⟩
  Tc:=r.Tc}
theorem Run.Tb:∀ (r:Run J W0 s0 B sc env st ow W s) (t:Qp J X W s W' s') (hX:∀ a∈X,a∈am env\/a∈ow\/B.s.heap.get? a=none/\s0.heap.get? a=none) (R:Qq J W' s'.heap sc st' env ow),Run J W0 s0 B sc env st' ow W' s':=by iterate 4
 exact {
  RY:=r.RY
  tr:=r.tr.trans t fun a ha=>by
   rcases hX a ha with z | z | z
   ·exact .inr (r.fr a z)
   ·exact .inr (r.Td a z)
   ·exact .inr z.2
  R:=R
  fr:=r.fr
  Td:=r.Td
  le:=r.le.trans t.le
  as:=r.as.trans t.as
  gens i g e:=t.gens i g (r.gens i g e)
  there a o e:=by obtain ⟨o1,e1⟩:=r.there a o e;exact t.there a o1 e1
  keep a h1 h2 h3:=by
   obtain ⟨k1,k2⟩:=r.keep a h1 h2 h3;have hx:a∉X:=fun hm=>by
    rcases hX a hm with z | z | z
    ·exact h2 z
    ·rcases r.Tc a z with z | z
     ·exact h3 z
     ·obtain ⟨_,_,_,o,e⟩:=h1;rw [z] at e;cases e
    ·obtain ⟨_,_,_,o,e⟩:=h1;rw [z.1] at e;cases e
   exact ⟨k1.keep t,fun o e=>k1.at t hx o (k2 o e)⟩
  Tc:=r.Tc}
theorem Run.iter:∀ {I:Addr} {h':Heap} {tk:Nat} (r:Run J W0 s0 B sc env st ow W s) (hB:B.s.heap.get? I=none) (h0:s0.heap.get? I=none) (ap:W.F I=none/\I∉J.T/\I∉W.QK.flatten) (hf:I∉am env++ow) (k:∀ b o,b≠I->s.heap.get? b=some o->h'.get? b=some o),Run J W0 s0 B sc env st ow W {s with heap:=h',toks:=tk}:=by iterate 9
 exact {
  RY:=r.RY
  tr:=r.tr.RB r.RY h0 ap k
  R:=r.R.Tw (tk:=tk) hf k
  fr:=r.fr
  Td:=r.Td
  le:=r.le
  as:=r.as
  gens:=r.gens
  there a o e:=by obtain ⟨o1,e1⟩:=r.there a o e;exact ⟨o1,k a o1 (fun q=>by rw [q,hB] at e;cases e) e1⟩
  keep a h1 h2 h3:=by
   obtain ⟨k1,k2⟩:=r.keep a h1 h2 h3;have ne:a≠I:=fun q=>by obtain ⟨_,_,_,o,e⟩:=h1;rw [q,hB] at e;cases e
   exact ⟨⟨k1.1,k1.2.1,k1.2.2.1,(by obtain ⟨o,e⟩:=k1.2.2.2;exact ⟨o,k a o ne e⟩)⟩,fun o e=>k a o ne (k2 o e)⟩
  Tc:=r.Tc}
theorem Az:∀ {x:Str} {o:OW} (h:st.own=some (x,o)) (y:Str) (d:D) (e:varD sc st.freeze y=some d),(y=x/\d=Ob o)\/varD sc st y=some d:=by iterate 6
 unfold varD at e ⊢;unfold St.freeze at e;rw [h] at e;by_cases q:y=x
 ·subst q;cases o<;>(cases z:sc.names.lookup y with
   | none=>rw [z] at e;cases e
   | some k=>rw [z] at e;cases k<;>simp [qr] at e ⊢ <;>first | exact .inl e.symm | exact .inr e)
 ·right;cases o<;>(cases z:sc.names.lookup y with
   | none=>rw [z] at e;cases e
   | some k=>rw [z] at e;cases k<;>simp [qq q] at e ⊢ <;>exact e)
theorem Run.freeze:∀ (r:Run J W0 s0 B sc env st ow W s),∃ W',W'.H=W.H/\Run J W0 s0 B sc env st.freeze [] W' s:=by iterate 1
 cases h:st.own with
 | none=>
  have:st.freeze=st:=by unfold St.freeze;rw [h]
  rw [this];refine ⟨W,rfl,?_⟩;exact {r with
   R:={r.R with
    apart:=fun a ha=>r.R.apart a (by simp at ha;exact aE _ ha)
    own:=fun x o e=>by rw [h] at e;cases e}
   Td:=fun a ha=>by simp at ha
   Tc:=fun a ha=>by simp at ha}
 | some p=>
  obtain ⟨x,o⟩:=p;obtain ⟨ZL,a,rfl,ha,hv,S5⟩:=r.R.own x o h;have apA:Apart J W s.heap a:=⟨r.R.Wz (by simp) ha,(r.R.apart a (by simp)).2⟩
  obtain ⟨ob,e,tr',rd⟩:=v3 r.tr (r.Td a (by simp)) apA S5;have le:PM.le W.F (W.Q8 a ob).F:=fun b o' e'=>by
   show (if b=a then some ob else W.F b)=some o';by_cases hb:b=a
   ·subst hb;rw [apA.1] at e';cases e'
   ·rw [if_neg hb];exact e'
  have apk:∀ b,b≠a->Apart J W s.heap b->Apart J (W.Q8 a ob) s.heap b:=fun b hb h=>h.Q8 hb;refine ⟨W.Q8 a ob,rfl,{
   RY:=r.RY
   tr:=tr'
   fr:=r.fr
   Td:=fun b hb=>by simp at hb
   le:=r.le.trans le
   as:=r.as
   gens:=r.gens
   there:=r.there
   keep:=fun b h1 h2 h3=>by
    obtain ⟨k1,k2⟩:=r.keep b h1 h2 h3;refine ⟨apk b (fun q=>?_) k1,k2⟩;rcases r.Tc a (by simp) with z | z
    ·exact h3 (q▸z)
    ·obtain ⟨_,_,_,o,e⟩:=h1;rw [q,z] at e;cases e
   Tc:=fun b hb=>by simp at hb
   R:={
    kind:=r.R.kind
    glob:=r.R.glob
    bi:=r.R.bi
    kd:=r.R.kd
    ns:=r.R.ns
    cells:=r.R.cells
    inj:=r.R.inj
    Rx:=r.R.Rx
    vars:=fun y d hy=>by
     rcases Az h y d hy with ⟨rfl,rfl⟩ | q
     ·exact ⟨_,hv,rd⟩
     ·obtain ⟨v,h1,h2⟩:=r.R.vars y d q;exact ⟨v,h1,h2.mono le (Pre.refl _)⟩
    apart:=fun b hb=>by rw [aS] at hb;have z:=r.R.apart b (aE _ hb);refine ⟨z.1.imp (fun z1=>?_) id,z.2⟩;show (if b=a then some ob else W.F b)=none;rw [if_neg (fun (q:b=a)=>ha (q▸hb))];exact z1
    own:=fun y o' hy=>by
     have:st.freeze.own=none:=by unfold St.freeze;rw [h];cases o<;>rfl
     rw [this] at hy;cases hy
    Rj:=fun y o' hy=>by
     have:st.freeze.own=none:=by unfold St.freeze;rw [h];cases o<;>rfl
     rw [this] at hy;cases hy}}⟩
end
end MP.Lake
namespace MP.Lake
open PySem PyProof.Rows
open AutoSeq1 (wpAny_loadPart')
theorem zq:∀ (l:Addr) (items:Array ag) (n:Nat) (b:Addr) (SK:Array ag) (n2:Nat) (dd dd2:Option Addr) (sl sl2:Array (Option ag)) (Xr:¬(!items.isEmpty&&cT (items.size+SK.size))=true) (ZT:items.size<=dw) (hs2:items.size+SK.size<=dw+1),Meets (ie.«list.extend» ⟨[.ref l,.ref b],[]⟩) (fun _ R s=>s.heap.get? l=some {cls:= .type "list",dict:=dd,data:= .seq items n,slots:=sl}/\s.heap.get? b=some {cls:= .type "list",dict:=dd2,data:= .seq SK n2,slots:=sl2}/\R (.ok (.ret iI)) {s with heap:=s.heap.update l (iS fun x=>x++SK),toks:=s.toks}):=by iterate 13
 exact (.of_wp fun prog w A R s h=>by
  obtain ⟨hp,g,d,tk,os⟩:=s;obtain ⟨hl,hb,h⟩:=h;have f1:=iG;have f2:=jv;have f3:=jS;have f4:=jE;have f5:=jF;have VP:(items++SK).size<=dw+1:=by rw [Array.size_append];exact hs2
  wp_walk using (iu hl rfl (hz:=ZT) (_hz':=VP)),dW hl,dW hb;exact ⟨_,rfl,h⟩)
theorem yy:∀ (l:Addr) (items:Array ag) (n:Nat) (dd:Option Addr) (sl:Array (Option ag)) (VE:items.size<=dw),Meets (ie.«list.reverse» ⟨[.ref l],[]⟩) (fun _ R s=>s.heap.get? l=some {cls:= .type "list",dict:=dd,data:= .seq items n,slots:=sl}/\R (.ok (.ret iI)) {s with heap:=s.heap.update l (iS fun x=>x.reverse),toks:=s.toks}):=by iterate 6
 exact (.of_wp fun prog w A R s h=>by
  obtain ⟨hp,g,d,tk,os⟩:=s;obtain ⟨hl,h⟩:=h;have f1:=iG;have f2:=jv;have f3:=jS;have f4:=jE;have f5:=jF;have VP:items.reverse.size<=dw+1:=by rw [Array.size_reverse];omega
  wp_walk using (iu hl rfl (hz:=VE) (_hz':=VP)),dW hl;exact ⟨_,rfl,h⟩)
section
variable {J:Cx} {A:bf} {W W0 W':Wd} {s s0 s':ah} {sc:aX} {st st':St} {env:Env} {ow U2:List Addr} {n:Nat} {B:Bs} {X:List Addr}
noncomputable def vU (J:Cx) (s:ah) (a:Addr) (vs:Array ag) (s':ah):Prop:=∃ h' tk,s'={s with heap:=h',toks:=tk}/\bW a s.heap h'/\bS h' a vs
theorem ut:∀ {a:Addr} {vs:Array ag} {f:Array ag->Array ag} {o:Obj} {n:Nat} (e:s.heap.get? a=some o) (c:o.cls= .type "list") (d:o.dict=none) (dt:o.data= .seq vs n),bS (s.heap.update a (iS f)) a (f vs):=by iterate 9 obtain ⟨n',Vr⟩:=Obj.data_mapSeq dt f;have hf:(o.mapSeq f).isFreed=false:=Obj.isFreed_of_seq Vr;refine ⟨_,n',Heap.get?_update_self _ e hf,(Obj.cls_mapSeq ..).trans c,?_,Vr⟩;obtain ⟨c0,d0,Z3,s0⟩:=o;simp only at dt d;subst dt;exact d
theorem wB:∀ {a b:Addr} {vs ws:Array ag} {o2:Obj} {n2:Nat} {E:ag->ah->Prop} (p:bS s.heap a vs) (e2:s.heap.get? b=some o2) (c2:o2.cls= .type "list") (dt2:o2.data= .seq ws n2) (Ru:vs.size+ws.size<=lim),aD (aC P0 J.w) A (call (.builtin "list.extend") [.ref a,.ref b]) (fun v s'=>v= .none/\vU J s a (vs++ws) s') E s:=by iterate 12
 obtain ⟨o,n,e,c,d,dt⟩:=id p;obtain ⟨cls,QH,data,sl⟩:=o;obtain ⟨af7,ab0,data2,sl2⟩:=o2;simp only at c d dt c2 dt2;subst c;subst d;subst dt;subst c2;subst dt2;have h24:dw=16777216:=by decide
 have hl:lim=1048576:=rfl;refine iC fF ⟨_,e,rfl⟩ PySem.F.entry_list_extend (PySem.F.args_list_extend_2 _ _) (zq a vs n b ws n2 none ab0 sl sl2 ?_ (by omega) (by omega)) ⟨e,e2,?_⟩
 ·have:cT (vs.size+ws.size)=false:=by
   unfold cT;exact decide_eq_false (by omega)
  rw [this];simp
 ·exact ⟨rfl,_,_,rfl,eJ ..,ut e rfl rfl rfl⟩
theorem Ae:∀ {a:Addr} {vs:Array ag} {E:ag->ah->Prop} (p:bS s.heap a vs) (Ru:vs.size<=lim),aD (aC P0 J.w) A (call (.builtin "list.reverse") [.ref a]) (fun v s'=>v= .none/\vU J s a vs.reverse s') E s:=by iterate 5 obtain ⟨o,n,e,c,d,dt⟩:=id p;obtain ⟨cls,QH,data,sl⟩:=o;simp only at c d dt;subst c;subst d;subst dt;have:=pt;refine iC jm ⟨_,e,rfl⟩ PySem.F.entry_list_reverse (PySem.F.args_list_reverse_1 _) (yy a vs n none sl (by omega)) ⟨e,?_⟩;exact ⟨rfl,_,_,rfl,eJ ..,ut e rfl rfl rfl⟩
theorem tZ:∀ {a:Addr} {vs:Array ag} {x:ag} {E:ag->ah->Prop} (p:bS s.heap a vs) (Ru:vs.size<=lim),aD (aC P0 J.w) A (call (.builtin "list.append") [.ref a,x]) (fun v s'=>v= .none/\vU J s a (vs.push x) s') E s:=by iterate 6 have:=pt;exact ji p (fun h' p' sb=>⟨rfl,_,_,rfl,sb,p'⟩) (by omega)
theorem Qt.reverse:∀ {F:PM} {as:List Addr} {ds:List D} {vs:List ag} (r:Qt J F as ds vs),Qt J F as ds.reverse vs.reverse:=by iterate 5
 exact (Qt.of_get (by simp [r.length]) fun i d v h1 h2=>by
 have hi:i<ds.length:=by have:=(ak.mp h1).1;simpa using this
 have l:=r.length;rw [bP hi] at h1;rw [bP (by omega),l] at h2;obtain ⟨v',h3,h4⟩:=r.get h1;rw [h3] at h2;cases h2;exact h4)
theorem Gl:∀ {m:Str} {xs ys ds:List D} (e:ownMeth m xs ds=some ys),∃ id,Slot "list" m id/\typeOf (.builtin id)=pure (.type "method_descriptor")/\∀ {A:bf} {W:Wd} {s:ah} {a:Addr} {vs:List ag} {E:ag->ah->Prop},QS J W s.heap (.lst xs) a->Qt J W.F W.as ds vs->Qs J W s->
   aD (aC P0 J.w) A (call (.builtin id) (.ref a::vs)) (fun v s'=>v= .none/\∃ h' tk,s'={s with heap:=h',toks:=tk}/\bW a s.heap h'/\QS J W h' (.lst ys) a) E s:=by iterate 5
 have xo:∀ {W:Wd} {s:ah} {a:Addr},QS J W s.heap (.lst xs) a->xs.length<=lim/\∃ ws,bS s.heap a ws/\Qt J W.F W.as xs ws.toList/\ws.size=xs.length:=fun h=>by obtain ⟨hl,ws,p,Wh⟩:=h;exact ⟨hl,ws,p,Wh,by rw [<-Wh.length,bA]⟩
 cases ds with
 | nil=>
  replace e:(if m==("reverse" :Str) then _ else _)=_:=e;split at e
  ·rename_i hm;cases eq_of_beq hm;cases e;refine ⟨"list.reverse",jm,PySem.F.type_list_reverse,fun h r hw=>?_⟩;obtain ⟨hl,ws,p,Wh,Ru⟩:=xo h;rw [sV r];refine af (Ae p (by omega)) (fun v s' y0=>?_) fun _ _ f=>f;obtain ⟨hv,h',tk,hs,sb,p'⟩:=y0;refine ⟨hv,h',tk,hs,sb,?_⟩;exact ⟨by simpa using hl,_,p',by rw [Array.toList_reverse];exact Wh.reverse⟩
  ·cases e
 | cons d r=>
  replace e:=bi e;obtain ⟨_,h1,e⟩:=e;cases oY h1;replace e:(if m==("append" :Str) then _ else _)=_:=e;split at e
  ·rename_i hm;cases eq_of_beq hm;split at e
   ·rename_i RO;cases e;refine ⟨"list.append",fG,fE,fun h r hw=>?_⟩;obtain ⟨hl,ws,p,Wh,Ru⟩:=xo h;obtain ⟨v,rfl,rv⟩:=qz r;refine af (tZ p (by omega)) (fun v s' y1=>?_) fun _ _ f=>f;obtain ⟨hv,h',tk,hs,sb,p'⟩:=y1;refine ⟨hv,h',tk,hs,sb,?_⟩;exact ⟨by simp;omega,_,p',by rw [gh];exact Wh.append (Qt.one rv)⟩
   ·cases e
  ·split at e
   ·rename_i hm;cases eq_of_beq hm;replace e:=bi e;obtain ⟨zs,h1,e⟩:=e;cases pu h1;split at e
    ·rename_i RO;cases e;refine ⟨"list.extend",fF,jx,fun h r hw=>?_⟩;obtain ⟨hl,ws,p,Wh,Ru⟩:=xo h;obtain ⟨v,rfl,rv⟩:=qz r;obtain ⟨VV,a2,us,n2,s2,rfl,e2,r2⟩:=io rv;have hus:=r2.length;refine af (wB (ws:=us.toArray) p (hw.sub _ _ e2) rfl rfl (by simp at RO ⊢;omega)) (fun v s' y2=>?_) fun _ _ f=>f;obtain ⟨hv,h',tk,hs,sb,p'⟩:=y2;refine ⟨hv,h',tk,hs,sb,?_⟩;exact ⟨RO,_,p',by simpa using Wh.append r2⟩
    ·cases e
   ·cases e
theorem Qq.SG:∀ {x:Str} {o o':OW} {a:Addr} {h':Heap} (R:Qq J W s.heap sc st env [a]) (Rn:st.own=some (x,o)) (sb:bW a s.heap h') (ho:QS J W h' o' a) (hex:∃ ob,h'.get? a=some ob),Qq J W h' sc (qt st x o') env [a]:=by iterate 10
 obtain ⟨ZL,b,hb,hf,hv,_⟩:=R.own x o Rn;cases hb;have k:∀ b∈am env,∀ o,s.heap.get? b=some o->h'.get? b=some o:=fun b hb o e=>(sb.2 b (fun q=>hf (q▸hb))).trans e;exact {
  kind:=R.kind
  glob:=R.glob
  bi:=R.bi
  kd:=R.kd
  ns:=by obtain ⟨m,e⟩:=R.ns;exact ⟨m,Ns.keep e (k _ (by simp [am]))⟩
  vars:=fun y d e=>by obtain ⟨v,h1,h2⟩:=R.vars y d e;exact ⟨v,h1.keep k,h2⟩
  cells:=fun y e=>by obtain ⟨c,v,h1,o,h2,h3⟩:=R.cells y e;exact ⟨c,v,h1,o,k _ (av _ (aH.mpr ⟨(y,c),al h1,rfl⟩)) _ h2,h3⟩
  inj:=R.inj
  Rx:=R.Rx
  apart:=fun b hb=>by
   obtain ⟨z1,z2,z3,o,z4⟩:=R.apart b hb;refine ⟨z1,z2,z3,?_⟩;by_cases q:b=a
   ·rw [q];exact hex
   ·exact ⟨o,(sb.2 b q).trans z4⟩
  own:=fun y o e=>by cases e;exact ⟨ZL,a,rfl,hf,hv.keep k,ho⟩
  Rj:=fun y o e=>by cases e;exact R.Rj x _ Rn}
theorem QS.ex:∀ {o:OW} {a:Addr} {h:Heap} (ahg:QS J W h o a),∃ ob,h.get? a=some ob:=by iterate 4 cases o with | lst xs=>obtain ⟨_,vs,⟨o,n,e,_⟩,_⟩:=ahg;exact ⟨o,e⟩ | QH QC=>obtain ⟨_,_,ws,⟨o,es,ep,e,_⟩,_⟩:=ahg;exact ⟨o,e⟩
theorem Run.SG:∀ {x:Str} {o o':OW} {a:Addr} {h':Heap} {tk:Nat} (r:Run J W0 s0 B sc env st [a] W s) (Rn:st.own=some (x,o)) (sb:bW a s.heap h') (ho:QS J W h' o' a),Run J W0 s0 B sc env (qt st x o') [a] W {s with heap:=h',toks:=tk}:=by iterate 10
 exact (have z:=r.R.apart a (by simp)
 have zf:W.F a=none:=(by obtain ⟨_,b,e,hb,_⟩:=r.R.own _ _ Rn;cases e;exact r.R.Wz (by simp) hb)
 r.Tb (X:=[a]) (r.ok.sameBut (tk:=tk) sb ⟨zf,z.2.1,z.2.2.1⟩ ho.ex) (fun b hb=> .inr (.inl hb)) (r.R.SG Rn sb ho ho.ex))
theorem Run.Rw:∀ {x:Str} {o:OW} {a:Addr} {v:ag} (r:Run J W0 s0 B sc env st [] W s) (RE:st.own=none) (hx:pP sc x=true) (hn:st.ρ.lookup x=none) (ap:Apart J W s.heap a) (hf:a∉am env) (hB:B.s.heap.get? a=none) (h0:s0.heap.get? a=none) (ho:QS J W s.heap o a),aD (aC P0 J.w) A (gV env x (.ref a)) (fun _ s'=>Run J W0 s0 B sc env (⟨st.ρ,st.up,some (x,o)⟩) [a] W s') (fun _ _=>False) s:=by iterate 13
 refine af (yV (v:= .ref a) r.R r.ok hx Q3.frame) (fun _ s' z3=>?_) fun _ _ e=>e;obtain ⟨k,h1,h2,h3,h4,h5,h6⟩:=z3;have vn:varD sc st x=none:=by unfold varD;rcases yc hx with q | q<;>(rw [q];exact hn)
 have R':Qq J W s'.heap sc (⟨st.ρ,st.up,some (x,o)⟩) env [a]:={
  kind:=r.R.kind
  glob:=r.R.glob
  bi:=r.R.bi
  kd:=r.R.kd
  ns:=h1
  vars:=fun y d e=>by have e:varD sc st y=some d:=e;obtain ⟨u,e1,e2⟩:=r.R.vars y d e;exact ⟨u,h3 y u (fun q=>by rw [q,vn] at e;cases e) e1,e2⟩
  cells:=h4
  inj:=r.R.inj
  Rx:=r.R.Rx
  apart:=fun b hb=>by
   rcases bF.mp hb with hb | hb
   ·obtain ⟨z1,z2,z3,o,z4⟩:=r.R.apart b (aE _ hb);exact ⟨z1,z2,z3,h6 b hb⟩
   ·simp at hb;subst hb;obtain ⟨z1,z2,z3,o,z4⟩:=ap;exact ⟨.inl z1,z2,z3,o,h5 b hf o z4⟩
  own:=fun y o' e=>by cases e;exact ⟨hx,a,rfl,hf,h2,ho.keep (PM.le.refl _) (Pre.refl _) (h5 a hf)⟩
  Rj:=fun y o' e=>by cases e;exact vn}
 have q:=Run.Tb (st':=⟨st.ρ,st.up,none⟩) r k (fun b hb=> .inl hb) (R:={
  kind:=r.R.kind
  glob:=r.R.glob
  bi:=r.R.bi
  kd:=r.R.kd
  ns:=h1
  vars:=fun y d e=>R'.vars y d e
  cells:=h4
  inj:=r.R.inj
  Rx:=r.R.Rx
  apart:=fun b hb=>by rw [aS] at hb;exact R'.apart b (aE _ hb)
  own:=fun y o' e=>by cases e
  Rj:=fun y o' e=>by cases e})
 exact {q with
  R:=R'
  Td:=fun b hb=>by simp at hb;subst hb;exact h0
  Tc:=fun b hb=>by simp at hb;subst hb;exact .inr hB}
end
end MP.Lake
namespace MP.Lake
open PySem PyProof.Rows
section
variable {J:Cx} {A:bf} {W W0 W':Wd} {s s0 s':ah} {X:List Addr}
theorem Rv:∀ {L:List (List Addr)},L.flatten.Nodup↔(∀ x∈L,x.Nodup)/\L.Pairwise fun x y=>∀ b∈x,b∉y:=by iterate 1 unfold List.Nodup;rw [List.pairwise_flatten];refine and_congr Iff.rfl ?_;exact ⟨fun h=>h.imp fun {x y} k b hb Sv=>k b hb b Sv rfl,fun h=>h.imp fun {x y} k b hb c hc=>fun (q:b=c)=>k b hb (by rw [q];exact hc)⟩
theorem vj:∀ {L:List (List Addr)} {l:Nat} {fp fp':List Addr} (h:L.flatten.Nodup) (e:L[l]? =some fp) (hn:fp'.Nodup) (hd:∀ b∈fp',b∈fp\/b∉L.flatten),(L.set l fp').flatten.Nodup:=by iterate 8
 rw [Rv] at h ⊢;obtain ⟨h1,h2⟩:=h;refine ⟨fun x hx=>?_,?_⟩
 ·rcases jX hx with q | q
  ·exact h1 x q
  ·rw [q];exact hn
 ·rw [fW] at h2 ⊢;intro i j hi hj hij;rw [List.length_set] at hi hj;have hl:=(ak.mp e).1;have he:=(ak.mp e).2;rw [mm,mm];have V9:∀ (k:Nat) (hk:k<L.length),k≠l->∀ b,b∈fp'->b∈L[k]->False:=fun k hk hkl b hb Sv=>by
   rcases hd b hb with q | q
   ·rcases lU hkl with z | z
    ·exact h2 k l hk hl z b Sv (by rw [he];exact q)
    ·exact h2 l k hl hk z b (by rw [he];exact q) Sv
   ·exact q (gJ.mpr ⟨_,b5 hk,Sv⟩)
  by_cases Wr:l=i
  ·subst Wr;have ZM:¬ l=j:=by omega
   rw [if_pos rfl,if_neg ZM];intro b hb Sv;exact V9 j hj (by omega) b hb Sv
  ·rw [if_neg Wr];by_cases ZM:l=j
   ·subst ZM;rw [if_pos rfl];intro b hb Sv;exact V9 i hi (by omega) b Sv hb
   ·rw [if_neg ZM];exact h2 i j hi hj hij
theorem Qp.VA:∀ {l:Nat} {mo':MO} {a:Addr} {fp fp':List Addr} {h':Heap} {tk:Nat} (hw:Qs J W s) (ha:W.as[l]? =some a) (Ut:W.QK[l]? =some fp) (hk:∀ b o,b∉fp->s.heap.get? b=some o->h'.get? b=some o) (VD:∀ b∈fp,∃ o,h'.get? b=some o) (Th:RK J W.F W.as h' mo' a fp') (hf:∀ b∈fp',b∈fp\/s.heap.get? b=none) (Xc:fp'.Nodup),Qp J X W s ⟨W.F,W.H.set l mo',W.as,W.QK.set l fp'⟩ {s with heap:=h',toks:=tk}:=by iterate 15
 have WL:∀ b∈fp,b∈W.QK.flatten:=fun b hb=>qP Ut hb;have fresh:∀ b,s.heap.get? b=none->b∉W.QK.flatten:=fun b hb hm=>by obtain ⟨o,e⟩:=(hw.RI b hm).2.2;rw [hb] at e;cases e
 have U5:∀ b,b∈(W.QK.set l fp').flatten->b∈W.QK.flatten\/(b∈fp'/\s.heap.get? b=none):=fun b hb=>by
  obtain ⟨x,hx,hbx⟩:=gJ.mp hb;rcases jX hx with q | q
  ·exact .inl (gJ.mpr ⟨x,q,hbx⟩)
  ·subst q;rcases hf b hbx with z | z
   ·exact .inl (WL b z)
   ·exact .inr ⟨hbx,z⟩
 have nd:=vj hw.nodup Ut Xc fun b hb=>(hf b hb).imp id fun z=>fresh b z;have V9:∀ (i:Nat) fpi,i≠l->W.QK[i]? =some fpi->∀ b∈fpi,b∉fp:=fun i fpi Wr e b hb Sv=>by
  have h2:=(Rv.mp hw.nodup).2;rw [fW] at h2;obtain ⟨hi,e1⟩:=ak.mp e;obtain ⟨hl,e2⟩:=ak.mp Ut;rcases lU Wr with z | z
  ·exact h2 i l hi hl z b (by rw [e1];exact hb) (by rw [e2];exact Sv)
  ·exact h2 l i hl hi z b (by rw [e2];exact Sv) (by rw [e1];exact hb)
 exact {
  ok:={
   sub:=fun b o e=>hk b o (fun q=>by rw [(hw.RI b (WL b q)).1] at e;cases e) (hw.sub b o e)
   base:=hw.base
   RD:=hw.RD
   low:=fun b o e=>by
    obtain ⟨o1,e1⟩:=hw.low b o e;by_cases q:b∈fp
    ·exact VD b q
    ·exact ⟨o1,hk b o1 q e1⟩
   tab:=fun T hT=>(hw.tab T hT).keep (PM.le.refl _) fun o e=>hk _ o (fun q=>(hw.RI _ (WL _ q)).2.1 (cM hT)) e
   Rg:=by simp [hw.Rg]
   Rm:=by simp [hw.Rm]
   obj:=fun i mo b Z0 h1 h2 h3=>by
    dsimp only at h1 h2 h3;rw [gq] at h1 h3;by_cases Wr:l=i
    ·subst Wr;rw [if_pos rfl] at h1 h3;split at h1
     ·split at h3
      ·cases h1;cases h3;rw [ha] at h2;cases h2;exact Th
      ·cases h3
     ·cases h1
    ·rw [if_neg Wr] at h1 h3;exact (hw.obj i mo b Z0 h1 h2 h3).keep (PM.le.refl _) (Pre.refl _) fun c hc o e=>hk c o (V9 i Z0 (dz Wr) h3 c hc) e
   nodup:=nd
   RI:=fun b hb=>by
    rcases U5 b hb with q | ⟨q,z⟩
    ·obtain ⟨z1,z2,o,z3⟩:=hw.RI b q;refine ⟨z1,z2,?_⟩;by_cases q:b∈fp
     ·exact VD b q
     ·exact ⟨o,hk b o q z3⟩
    ·have n:=hw.QQ z;exact ⟨n.1,n.2.1,Th.lt b q⟩
   bare:=hw.bare
   os:=hw.os}
  le:=PM.le.refl _
  fresh:=fun b o e=> .inl e
  keep:=fun b o h1 h2 _ e=>hk b o (fun q=>h2 (WL b q)) e
  there:=fun b o e=>by
   by_cases q:b∈fp
   ·exact VD b q
   ·exact ⟨o,hk b o q e⟩
  as:=Pre.refl _
  QK:=fun b hb=>(U5 b hb).imp id fun z=>z.2
  gens:=fun i g e=>e}
theorem Qp.Xx:∀ {mo:MO} {a:Addr} {fp:List Addr} (tr:Qp J X W0 s0 W s) (hf:∀ b∈fp,Apart J W s.heap b/\s0.heap.get? b=none) (Xc:fp.Nodup) (Th:RK J W.F (W.as++[a]) s.heap mo a fp),Qp J X W0 s0 ⟨W.F,W.H++[mo],W.as++[a],W.QK++[fp]⟩ s:=by iterate 7
 have hw:=tr.ok;have pre:Pre W.as (W.as++[a]):=fun i x e=>by rw [bg (ak.mp e).1];exact e
 have U5:∀ b,b∈(W.QK++[fp]).flatten->b∈W.QK.flatten\/b∈fp:=fun b hb=>by
  rw [fk] at hb;rcases bF.mp hb with q | q
  ·exact .inl q
  ·exact .inr (by simpa using q)
 exact {
  ok:={
   sub:=hw.sub
   base:=hw.base
   RD:=hw.RD
   low:=hw.low
   tab:=hw.tab
   Rg:=by simp [hw.Rg]
   Rm:=by simp [hw.Rm]
   obj:=fun i mo' b Z0 h1 h2 h3=>by
    dsimp only at h1 h2 h3;by_cases hi:i<W.H.length
    ·rw [bg hi] at h1;rw [bg (by rw [hw.Rg];exact hi)] at h2;rw [bg (by rw [hw.Rm];exact hi)] at h3;exact (hw.obj i mo' b Z0 h1 h2 h3).keep (PM.le.refl _) pre fun _ _ _ e=>e
    ·have Vm:W.H.length<=i:=Nat.le_of_not_lt hi;rw [aT Vm] at h1;rw [aT (by rw [hw.Rg];exact Vm),hw.Rg] at h2;rw [aT (by rw [hw.Rm];exact Vm),hw.Rm] at h3;cases q:i-W.H.length with | zero=>rw [q] at h1 h2 h3;simp at h1 h2 h3;subst h1;subst h2;subst h3;exact Th | succ k=>rw [q] at h1;simp at h1
   nodup:=by rw [fk,gn];refine ⟨hw.nodup,by simpa using Xc,fun x hx y hy=>?_⟩;simp at hy;rintro rfl;exact (hf x hy).1.2.2.1 hx
   RI:=fun b hb=>by
    rcases U5 b hb with q | q
    ·exact hw.RI b q
    ·exact ⟨(hf b q).1.1,(hf b q).1.2.1,(hf b q).1.2.2.2⟩
   bare:=hw.bare
   os:=hw.os}
  le:=tr.le
  fresh:=tr.fresh
  keep:=tr.keep
  there:=tr.there
  as:=tr.as.trans pre
  QK:=fun b hb=>by
   rcases U5 b hb with q | q
   ·exact tr.QK b q
   ·exact .inr (hf b q).2
  gens:=tr.gens}
end
noncomputable def qw (J:Cx) (W0:Wd) (s0:ah) (B:Bs) (sc:aX) (env:Env) (st':St) (g':G) (fl:Fl) (f:Flow) (s':ah):Prop:=
 ∃ W',W'.H=g'/\match fl with
  | .next=>f= .next/\∃ U2,Run J W0 s0 B sc env st' U2 W' s'
  | .ret d=>∃ v,f= .ret v/\Rd J W'.F W'.as d v/\Qp J [] W0 s0 W' s'
structure TO (J:Cx) (n:Nat):Prop where
 ss:∀ {sc st ss g fl st' g' env ow A W0 s0 B W s},ceSs P0 n sc st ss g=some (fl,st',g')->W.H=g->Run J W0 s0 B sc env st ow W s->Qx n A->aD (aC P0 J.w) A (gg ss env) (qw J W0 s0 B sc env st' g' fl) (fun _ _=>False) s
 s_:∀ {sc st x g fl st' g' env ow A W0 s0 B W s},ceS P0 n sc st x g=some (fl,st',g')->W.H=g->Run J W0 s0 B sc env st ow W s->Qx n A->aD (aC P0 J.w) A (exec x env) (qw J W0 s0 B sc env st' g' fl) (fun _ _=>False) s
 Rl:∀ {sc st t b g fl st' g' env ow A W0 s0 B W s},Dc P0 n sc st t b g=some (fl,st',g')->W.H=g->Run J W0 s0 B sc env st ow W s->Qx n A->
  bQ (aC P0 J.w) A (.whileLoop t b [] env) (fun r s'=>∃ f,r= .ok f/\qw J W0 s0 B sc env st' g' fl f s') s
 Sl:∀ {sc st t ds b g fl st' g' env ow A W0 s0 B W s I St},wH P0 n sc st t ds b g=some (fl,st',g')->W.H=g->Run J W0 s0 B sc env st ow W s->Qx n A->QT J I St->St ds W s.heap->Apart J W s.heap I->I∉am env->I∉ow->B.s.heap.get? I=none->s0.heap.get? I=none->
  bQ (aC P0 J.w) A (.forLoop t (.ref I) b [] env) (fun r s'=>∃ f,r= .ok f/\qw J W0 s0 B sc env st' g' fl f s') s
section
variable {J:Cx} {A:bf} {W W0 W':Wd} {s s0 s':ah} {sc:aX} {st st':St} {env:Env} {ow U2:List Addr} {n:Nat} {B:Bs} {X:List Addr}
theorem Gx:TO J 0:=by iterate 0
 exact {
  ss:=fun h=>by cases h
  s_:=fun h=>by cases h
  Rl:=fun h=>by cases h
  Sl:=fun h=>by cases h}
theorem IL:∀ (ok:TO J n),∀ {sc st ss g fl st' g' env ow A W0 s0 B W s},ceSs P0 (n+1) sc st ss g=some (fl,st',g')->W.H=g->Run J W0 s0 B sc env st ow W s->Qx (n+1) A->aD (aC P0 J.w) A (gg ss env) (qw J W0 s0 B sc env st' g' fl) (fun _ _=>False) s:=by iterate 1
 intro sc st ss g fl st' g' env ow A W0 s0 B W s h hg r Q4;have hA:Qx n A:=Q4.le (bV n);cases ss with
 | nil=>cases h;exact aW ⟨W,hg,rfl,ow,r⟩
 | cons x rest=>replace h:=bi h;obtain ⟨⟨RU,QZ,g1⟩,h1,h2⟩:=h;refine ao (af (ok.s_ h1 hg r hA) (fun f s1 h=>?_) fun _ _ f=>f);obtain ⟨W1,Ra,h⟩:=h;cases RU with | next=>obtain ⟨rfl,S1,r1⟩:=h;exact ok.ss h2 Ra r1 hA | ret d=>obtain ⟨v,rfl,rv,tr⟩:=h;cases h2;exact ⟨W1,Ra,v,rfl,rv,tr⟩
theorem BW:∀ (Qw:Ok J n) (ok:TO J n),∀ {sc st t b g fl st' g' env ow A W0 s0 B W s},Dc P0 (n+1) sc st t b g=some (fl,st',g')->W.H=g->Run J W0 s0 B sc env st ow W s->Qx (n+1) A->
  bQ (aC P0 J.w) A (.whileLoop t b [] env) (fun r s'=>∃ f,r= .ok f/\qw J W0 s0 B sc env st' g' fl f s') s:=by iterate 2
 intro sc st t b g fl st' g' env ow A W0 s0 B W s h hg r Q4;have hA:Qx n A:=Q4.le (bV n);refine codeAny_whileLoop (fun k s'=>∃ W' QZ g1 S1,vV (fun st g=>ceT P0 n sc st t g) (fun st g=>ceSs P0 n sc st b g) k QZ g1=some (fl,st',g')/\Run J W0 s0 B sc env QZ S1 W' s'/\W'.H=g1) ?_ 200 ⟨W,st,g,ow,h,r,hg⟩;rintro k s' ⟨W',QZ,g1,S1,h,r,hg⟩;cases k with
 | zero=>cases h
 | succ k=>
  replace h:=bi h;obtain ⟨⟨c,g2⟩,h1,h2⟩:=h;refine Ex.into (Qw.t h1 hg r.ok r.R hA) fun c' W1 s1 k1 p1=>?_;cases p1.1;have r1:=r.expr k1;split at h2
  ·rename_i hb;rw [if_pos hb];replace h2:=qO h2;obtain ⟨⟨Z1,Se,g3⟩,h3,u,h4,h5⟩:=h2;cases Z1 with
   | ret d=>cases h4
   | next=>refine af (ok.ss h3 p1.2 r1 hA) (fun f s2 q=>?_) fun _ _ f=>f.elim;obtain ⟨W2,Sa,rfl,ow2,r2⟩:=q;exact ⟨k,jq _,W2,Se,g3,ow2,h5,r2,Sa⟩
  ·rename_i hb;rw [if_neg hb];cases h2;exact aW ⟨_,rfl,W1,p1.2,rfl,S1,r1⟩
theorem GK:∀ (ok:TO J n),∀ {sc st t ds b g fl st' g' env ow A W0 s0 B W s I St},wH P0 (n+1) sc st t ds b g=some (fl,st',g')->W.H=g->Run J W0 s0 B sc env st ow W s->Qx (n+1) A->QT J I St->St ds W s.heap->Apart J W s.heap I->I∉am env->I∉ow->B.s.heap.get? I=none->s0.heap.get? I=none->
  bQ (aC P0 J.w) A (.forLoop t (.ref I) b [] env) (fun r s'=>∃ f,r= .ok f/\qw J W0 s0 B sc env st' g' fl f s') s:=by iterate 1
 intro sc st t ds b g fl st' g' env ow A W0 s0 B W s I St h hg r Q4 hit RE QY Y6 Y3 hIB ZW;have hA:Qx n A:=Q4.le (bV n);replace h:=bi h;obtain ⟨⟨X7,gF,rr⟩,h,Ud⟩:=h;cases Ud;replace h:iterLoop (ME (fs P0 n) sc t b) ds st g=some (X7,gF,rr):=h;generalize SN:ME (fs P0 n) sc t b=step at h;refine mQ (fun k s'=>∃ W' Rh QZ g1 S1,k=Rh.length+1/\iterLoop step Rh QZ g1=some (X7,gF,rr)/\Run J W0 s0 B sc env QZ S1 W' s'/\W'.H=g1/\St Rh W' s'.heap/\Apart J W' s'.heap I/\I∉S1) ?_ (ds.length+1) ⟨W,ds,st,g,ow,rfl,h,r,hg,RE,QY,Y3⟩;rintro k s' ⟨W',Rh,QZ,g1,S1,rfl,h,r,hg,RE,QY,Y3⟩;have Y4:I∉am env++S1:=fun hm=>by
  rcases bF.mp hm with q | q
  ·exact Y6 q
  ·exact Y3 q
 cases Rh with
 | nil=>cases h;refine hit.done A W' s' _ _ hA.1 RE r.ok.sub QY.1 fun h' tk kk=>?_;have r1:=r.iter (tk:=tk) hIB ZW ⟨QY.1,QY.2.1,QY.2.2.1⟩ Y4 kk;exact aW ⟨_,rfl,W',hg,rfl,S1,r1⟩
 | cons d QI=>
  have body:∀ Se g2 x,step d QZ g1=some (Se,g2,x)->∃ ρ RU,p9 sc QZ t=true/\bn t d QZ.ρ=some ρ/\ceSs P0 n sc (QZ.withRho ρ) b g1=some (RU,Se,g2)/\x=rS RU:=fun Se g2 x e=>by cases SN;obtain ⟨u,e1,ρ,e2,⟨RU,st3,g3⟩,e3,e4⟩:=vK e;cases e4;exact ⟨ρ,RU,dl e1,e2,e3,rfl⟩
  refine hit.next A W' s' d QI _ _ hA.1 RE r.ok.sub QY.1 fun v h' tk rv VR hI1 kk lg=>?_;have r1:=r.iter (tk:=tk) hIB ZW ⟨QY.1,QY.2.1,QY.2.2.1⟩ Y4 kk;have Zj:Apart J W' h' I:=⟨QY.1,QY.2.1,QY.2.2.1,hI1⟩
  refine lg A t _ _ _ rfl ?_;have main:∀ Se g2 x,step d QZ g1=some (Se,g2,x)->aD (aC P0 J.w) A (assign t env v) (fun _ Q9=>aD (aC P0 J.w) A (gg b env) (fun f QP=>∃ RU,x=rS RU/\∃ W3,W3.H=g2/\match RU with
     | .next=>f= .next/\∃ UA,Run J W0 s0 B sc env Se UA W3 QP/\St QI W3 QP.heap/\Apart J W3 QP.heap I/\I∉UA
     | .ret d=>∃ v,f= .ret v/\Rd J W3.F W3.as d v/\Qp J [] W0 s0 W3 QP) (fun _ _=>False) Q9) (fun _ _=>False) {s' with heap:=h',toks:=tk}:=fun Se g2 x e=>by
   obtain ⟨ρ,RU,e1,e2,e3,rfl⟩:=body Se g2 x e;unfold p9 at e1;rw [ai] at e1;have QD:=aj.mp e1.1;refine af (um (Y:=am env) hA.1 e2 (fun x hx=>by have:=QD x hx;rw [ai] at this;exact ⟨this.2,this.1,Q3.frame⟩) rv r1.R r1.ok) (fun _ s2 ⟨k2,R2⟩=>?_) fun _ _ f=>f;have r2:=r1.Tb k2 (fun a ha=> .inl ha) R2;have Zi:Apart J W' s2.heap I:=Zj.keep k2;have WT:St QI W' s2.heap:=hit.keep _ _ _ _ _ VR k2.le k2.as (Zj.at k2 Y6);refine af (ok.ss e3 hg r2.rebase hA) (fun f s3 y0=>?_) fun _ _ f=>f;obtain ⟨W3,Sk,q⟩:=y0;refine ⟨RU,rfl,W3,Sk,?_⟩;cases RU with
   | ret d=>exact q
   | next=>
    obtain ⟨hf,UA,q⟩:=q;obtain ⟨k3,k4⟩:=q.keep I Zi Y6 Y3;refine ⟨hf,UA,r2.join q,hit.keep _ _ _ _ _ WT q.le q.as k4,k3,fun hm=>?_⟩;rcases q.Tc I hm with z | z
    ·exact Y3 z
    ·obtain ⟨_,_,_,o,e⟩:=Zi;rw [z] at e;cases e
  rcases pJ h with ⟨Se,g2,e,QL⟩ | ⟨Se,g2,x,e,QL⟩
  ·refine af (main _ _ _ e) (fun _ s2 h2=>af h2 (fun f s3 z2=>?_) fun _ _ f=>f.elim) fun _ _ f=>f.elim;obtain ⟨RU,hx,W3,Sk,q⟩:=z2;cases RU with | ret d=>cases hx | next=>obtain ⟨rfl,UA,r3,WS,ap3,ho3⟩:=q;exact ⟨QI.length+1,by simp,W3,QI,Se,g2,UA,rfl,QL,r3,Sk,WS,ap3,ho3⟩
  ·refine af (main _ _ _ e) (fun _ s2 h2=>af h2 (fun f s3 z3=>?_) fun _ _ f=>f.elim) fun _ _ f=>f.elim;obtain ⟨RU,hx,W3,Sk,q⟩:=z3;cases QL;cases RU with | next=>cases hx | ret d=>cases hx;obtain ⟨v,rfl,rv3,t3⟩:=q;exact ⟨_,rfl,W3,Sk,v,rfl,rv3,t3⟩
end
noncomputable def pL (J:Cx) (n:Nat):Prop:=∃ fv,pV J "_iter_escaped_chars" fv/\
 ∀ {sc st t x b g fl st' g' env ow A W0 s0 B W s v},wH P0 n sc st t (units x) b g=some (fl,st',g')->Rd J W.F W.as (.str x) v->W.H=g->Run J W0 s0 B sc env st ow W s->Qx n A->
  aD (aC P0 J.w) A (call fv [v]) (fun xv Ql=>aD (aC P0 J.w) A (kz xv) (fun it Q9=>bQ (aC P0 J.w) A (.forLoop t it b [] env) (fun r s'=>∃ f,r= .ok f/\qw J W0 s0 B sc env st' g' fl f s') Q9) (fun _ _=>False) Ql) (fun _ _=>False) s
section
variable {J:Cx} {A:bf} {W W0 W':Wd} {s s0 s':ah} {sc:aX} {st st':St} {env:Env} {ow U2:List Addr} {n:Nat} {B:Bs} {X:List Addr}
theorem AP:∀ {e:Expr} {t:Option Expr} {l:Nat} (h:zp e=true),jg e t l env=pure false:=by iterate 4 cases e<;>first | rfl | cases h
theorem tY:∀ {e:Expr} {ts:List Expr} {k:Nat} {p:Pos} {l:Nat},swapsWithSole [.Tuple ts k p] e l env=pure false:=by iterate 5 cases e<;>rfl
theorem Cl:∀ {e:Expr} {x:Str} {p:Pos} {l:Nat},(jg e (some (.Name x p)) l env=pure false)\/(jg e (some (.Name x p)) l env=pure true/\∃ q,vY env e=some q)\/(∃ a b c d,e= .SetComp a b c d):=by iterate 4
 cases e<;>first
  | exact .inl rfl
  | (rename_i a b c d;exact .inr (.inr ⟨a,b,c,d,rfl⟩))
  | (unfold jg;dsimp only;generalize (_&&_:Bool)=bb;cases bb;exact .inl rfl;exact .inr (.inl ⟨rfl,_,rfl⟩))
theorem Run.Q2:∀ {a:Addr} (r:Run J W0 s0 B sc env st ow W s) (h:s.heap.get? a=none),a∉am env++ow:=by iterate 3
 exact (fun hm=>by
 obtain ⟨_,_,_,o,e⟩:=r.R.apart a hm;rw [h] at e;cases e)
theorem Run.store:∀ {x:Str} {v:ag} {d:D} (r:Run J W0 s0 B sc env st ow W s) (hx:pP sc x=true) (TH:oS st x=true) (rd:Rd J W.F W.as d v),aD (aC P0 J.w) A (gV env x v) (fun _ s'=>Qp J (am env) W s W s'/\Run J W0 s0 B sc env (st.withRho ((x,d)::st.ρ)) ow W s') (fun _ _=>False) s:=by iterate 7 exact (af (u1 r.R r.ok hx rd TH Q3.frame) (fun _ s' z0=>by obtain ⟨k,R⟩:=z0;exact ⟨k,r.Tb k (fun a ha=> .inl ha) R⟩) fun _ _ f=>f)
theorem Br:∀ {elt:Expr} {gens:List js} {Qm:aX} {p:Pos} {g:G} {r:D×G} (h:ceE P0 n sc st (.ListComp elt gens Qm p) g=some r),firstAsync gens=false:=by iterate 7
 cases n with
 | zero=>cases h
 | succ n=>replace h:AA P0 (fs P0 n) sc st n g (ev (.ListComp elt gens Qm p))=some r:=h;generalize ev (.ListComp elt gens Qm p)=v at h;cases v with | other=>cases h | _=>rfl
theorem BR:∀ {k v:Expr} {gens:List js} {Qm:aX} {p:Pos} {g:G} {r:D×G} (h:ceE P0 n sc st (.DictComp k v gens Qm p) g=some r),firstAsync gens=false:=by iterate 8
 cases n with
 | zero=>cases h
 | succ n=>replace h:AA P0 (fs P0 n) sc st n g (ev (.DictComp k v gens Qm p))=some r:=h;generalize ev (.DictComp k v gens Qm p)=w at h;cases w with | other=>cases h | _=>rfl
theorem wA:∀ {e:Expr} {x:Str} {xp pos:Pos} {g g1:G} {d:D} (Qw:Ok J n) (h:ceE P0 n sc st e g=some (d,g1)) (hg:W.H=g) (r:Run J W0 s0 B sc env st ow W s) (hA:Qx n A) (hx:pP sc x=true) (TH:oS st x=true),aD (aC P0 J.w) A (exec (.Assign [.Name x xp] e pos) env) (qw J W0 s0 B sc env (st.withRho ((x,d)::st.ρ)) g1 .next) (fun _ _=>False) s:=by iterate 14
 rcases Cl (env:=env) (e:=e) (x:=x) (p:=xp) (l:=pos.line) with hs | ⟨hs,q,hp⟩ | ⟨a,b,c,dd,rfl⟩
 ·refine bj (Ex.into (Qw.e h hg r.ok r.R hA) fun v W1 s1 k1 z1=>?_) hs;obtain ⟨Ra,rv⟩:=z1;exact af ((r.expr k1).store hx TH rv) (fun _ s2 z2=>by obtain ⟨_,r2⟩:=z2;exact ⟨W1,Ra,rfl,ow,r2⟩) fun _ _ f=>f
 ·obtain ⟨Qm,ab3,QF,first⟩:=q;rw [exec_Assign_Name_used _ _ _ _ hs];refine ae (bt ?_);have ev:=Qw.comp h hg r.ok r.R hA hp;have main:aD (aC P0 J.w) A (lJ e Qm env ab3 QF false first (some (assign (.Name x xp) env))) (fun _ s'=>qw J W0 s0 B sc env (st.withRho ((x,d)::st.ρ)) g1 .next .next s') (fun _ _=>False) s:=by
   refine ev _ _ fun W1 s1 k1 acc C s' z3=>?_;obtain ⟨_,W',t,ZO,rd,ap,hC,m,Sf⟩:=z3;have r1:=r.expr (k1.Qn t);have Y8:C∉am env++ow:=(r.expr k1).Q2 hC;show aD _ A (assign (.Name x xp) env acc) _ _ s';refine cQ (af (r1.store hx TH rd) (fun _ s2 z4=>?_) fun _ _ f=>f);obtain ⟨k2,r2⟩:=z4;have abM:C∉am env:=fun hm=>Y8 (aE _ hm);refine ⟨m,Ns.keep Sf (ap.at k2 abM),fun h' sb=>?_⟩;have XG:=ap.keep k2;have r3:=r2.iter (tk:=s2.toks) ((r.expr k1).RM hC) ((r.expr k1).tr.Qy hC) ⟨XG.1,XG.2.1,XG.2.2.1⟩ Y8 fun b o hb e=>(sb.2 b hb).trans e;exact ⟨W',ZO,rfl,ow,r3⟩
  cases e<;>cases hp
  ·rw [<-Br h] at main;exact ae (ae (af main (fun _ s' h=>ay (ay h)) fun _ _ f=>f))
  ·rw [<-BR h] at main;exact ae (ae (af main (fun _ s' h=>ay (ay h)) fun _ _ f=>f))
 ·cases n<;>cases h
theorem A5:∀ {x:Str} {o:OW} {st':St} (h:Rw st x o=some st'),st.freeze.ρ.lookup x=none/\st'=⟨st.freeze.ρ,st.freeze.up,some (x,o)⟩:=by iterate 4
 unfold Rw at h;cases q:st.freeze.ρ.lookup x with
 | some d=>rw [q] at h;cases h
 | none=>
  rw [q] at h;cases h;refine ⟨rfl,?_⟩;have:st.freeze.up=st.up:=by obtain ⟨_,_,_ | ⟨y,_ | _⟩⟩:=st<;>rfl
  rw [this]
theorem xf:st.freeze.own=none:=by iterate 0 obtain ⟨_,_,_ | ⟨y,_ | _⟩⟩:=st<;>rfl
theorem BQ:∀ {I l:Addr} {vs:List ag} {all:List D},QT J I fun ds W h=>∃ k:Nat,k<=all.length/\ds=(all.take k).reverse/\h.IsRevIter I l ((k:Int)-1)/\Qt J W.F W.as all vs/\Rf W.F l vs:=by iterate 4
 exact {
  self:=fun A W s ds Q E _ z0 hq=>by obtain ⟨k,_,_,h2,_⟩:=z0;exact mw h2 hq
  next:=fun A W s d ds Q E hA z1 hs hI hq=>by
   obtain ⟨k,h0,h1,h2,h3,h4⟩:=z1;cases k with
   | zero=>simp at h1
   | succ k=>
    have hk:k<all.length:=h0;have e1:all.take (k+1)=all.take k++[all[k]]:=by rw [gk,au hk];rfl
    rw [e1,List.reverse_append] at h1;simp only [gm,List.reverse_nil,a9,bc,gy] at h1;obtain ⟨rfl,rfl⟩:=h1;obtain ⟨v,e2,e3⟩:=h3.get (au hk);have hl:=Rf.isList h4 hs;have hi:((k+1:Nat):Int)-1=(k:Int):=by omega
    rw [hi] at h2;refine wpAny_pyNext_rev_item h2 hl (x:=v) (by simpa using e2) fun h' hit sb=>?_;refine hq v h' s.toks e3 ⟨k,fU hk,rfl,hit,h3,h4⟩ (by obtain ⟨o,e,_⟩:=hit;exact ⟨o,e⟩) (fun b o hb e=>(sb.2 b hb).trans e) fun A' target Q' E' s' TF q=>?_;obtain ⟨o,e,c,dd⟩:=hit;exact pG (by rw [TF];exact e) c dd rfl q
  done:=fun A W s Q E hA z2 hs hI hq=>by
   obtain ⟨k,h0,h1,h2,h3,h4⟩:=z2;have:k=0:=by have:=congrArg fj h1;simp at this;omega
   subst this;exact wpAny_pyNext_rev_end hA h2 fun h' sb=>hq h' s.toks fun b o hb e=>sb b o hb e
  keep:=fun ds W W' h h' z3 k1 k2 k3=>by obtain ⟨k,h0,h1,⟨o,e,c,d⟩,h3,h4⟩:=z3;exact ⟨k,h0,h1,⟨o,k3 _ e,c,d⟩,h3.mono k1 k2,h4.mono k1⟩
  there:=fun ds W h z4=>by obtain ⟨k,h0,h1,⟨o,e,c,d⟩,_⟩:=z4;exact ⟨o,e⟩}
theorem Ab:∀ {fl:Fl} {g':G} {t:Expr} {it:ag} {b:List Stmt} (h:bQ (aC P0 J.w) A (.forLoop t it b [] env) (fun r s'=>∃ f,r= .ok f/\qw J W0 s0 B sc env st' g' fl f s') s),bQ (aC P0 J.w) A (.forLoop t it b [] env) (fun r s'=>match r with | .ok f=>qw J W0 s0 B sc env st' g' fl f s' | .error e=>cameBackBy (aC P0 J.w) A env (fun _ _=>False) e s') s:=by iterate 6 exact (cP h fun r s' z5=>by obtain ⟨f,hr,h⟩:=z5;subst hr;exact h)
theorem Oc:∀ {t it:Expr} {b:List Stmt} {pos:Pos} {g:G} {fl:Fl} {g':G} (fx:Fx J) (Qw:Ok J n) (ok:TO J n) (gen:pL J n) (h:(match qW sc "_iter_escaped_chars" it with
   | some a=>(ceE P0 n sc st a g).bind fun d=>(sI d.1).bind fun s=>wH P0 n sc st t (units s) b d.2
   | none=>match qW sc "reversed" it with
    | some a=>(ceE P0 n sc st a g).bind fun d=>(tw d.1).bind fun xs=>wH P0 n sc st t xs.reverse b d.2
    | none=>(ceE P0 n sc st it g).bind fun d=>(itemsOf d.1).bind fun ds=>wH P0 n sc st t ds b d.2)=some (fl,st',g')) (hg:W.H=g) (r:Run J W0 s0 B sc env st ow W s) (hA:Qx n A),aD (aC P0 J.w) A (exec (.For t it b [] pos) env) (qw J W0 s0 B sc env st' g' fl) (fun _ _=>False) s:=by iterate 15
 cases ha:qW sc "_iter_escaped_chars" it with
 | some a=>rw [ha] at h;replace h:=qO h;obtain ⟨⟨d,g1⟩,h1,x,h2,h3⟩:=h;cases (show d=_ from oO h2);obtain ⟨fp,cp,rfl,hc⟩:=xc ha;obtain ⟨fv,cf,Vt⟩:=gen;refine md ?_ (fun _=>rfl);refine bH (bk r.R.kind (r.R.global hc) (cf.1.load r.R r.ok ?_));refine pk (first:=[]) cf (by rw [pI h1];rfl) ?_;refine aR (Ex.into (Qw.e h1 hg r.ok r.R hA) fun v W1 s1 k1 p1=>?_) (pI h1);rw [show eM (kC cp (eL [] env))=pure [] from rfl];refine ay ⟨k1.ok.QB,?_⟩;exact af (Vt h3 p1.2 p1.1 (r.expr k1) hA) (fun xv s2 h=>af h (fun it s3 h=>Ab h) fun _ _ f=>f) fun _ _ f=>f
 | none=>
  rw [ha] at h;cases ha:qW sc "reversed" it with
  | some a=>
   rw [ha] at h;replace h:=qO h;obtain ⟨⟨d,g1⟩,h1,xs,h2,h3⟩:=h;cases (show d=_ from pu h2);obtain ⟨fp,cp,rfl,hc⟩:=xc ha;obtain ⟨mg,mb,q1,q2,_,_,_,_,_,_,q3,q4,_⟩:=fx.glob;refine md ?_ (fun _=>rfl);refine bH (bk r.R.kind (r.R.global hc) (S7.load ⟨mg,mb,q1,q2,.inr ⟨q3,q4⟩⟩ r.R r.ok ?_));refine oC ?_ (pI h1);refine aR (Ex.into (Qw.e h1 hg r.ok r.R hA) fun v W1 s1 k1 p1=>?_) (pI h1);refine aZ ?_;obtain ⟨hl,a1,ws,n1,sl1,rfl,e1,r1⟩:=io p1.2;refine call_reversed_list (items:=ws.toArray) ⟨_,k1.ok.sub _ _ e1,rfl,n1,rfl⟩ ?_;have t2:=Qp.push (X:=[]) (tk:=s1.toks) k1.ok (revObj a1 ((ws.toArray.size:Int)-1));have Rr:s1.heap.get? s1.heap.objs.size=none:=bv _;have QE:({s1 with heap:=s1.heap.push (revObj a1 ((ws.toArray.size:Int)-1))}:ah).heap.IsRevIter s1.heap.objs.size a1 ((ws.toArray.size:Int)-1):=⟨_,ax _ rfl,rfl,rfl⟩
   refine mw QE ?_;have Ul:=r.expr k1;have hf:=Ul.Q2 Rr;have nn:=k1.ok.QQ Rr;have Ru:ws.toArray.size=xs.length:=by rw [<-r1.length];simp
   refine Ab (ok.Sl (I:=s1.heap.objs.size) h3 p1.1 (Ul.expr t2) hA (BQ (l:=a1) (vs:=ws) (all:=xs)) ⟨xs.length,bN _,by simp,by rw [<-Ru];exact QE,r1,⟨_,_,e1,rfl,rfl,rfl⟩⟩ ⟨nn.1,nn.2.1,nn.2.2,_,ax _ rfl⟩ (fun hm=>hf (aE _ hm)) (fun hm=>hf (cU _ hm)) (Ul.RM Rr) (Ul.tr.Qy Rr))
  | none=>rw [ha] at h;replace h:=qO h;obtain ⟨⟨d,g1⟩,h1,ds,h2,h3⟩:=h;refine md (Ex.into (Qw.e h1 hg r.ok r.R hA) fun v W1 s1 k1 p1=>?_) (wr h1);have r1:=r.expr k1;refine af (wd h2 p1.2 k1.ok) (fun jt s2 q=>?_) fun _ _ f=>f;obtain ⟨I,St,rfl,hit,RE,VF,k2⟩:=q;have hf:=r1.Q2 VF;have nn:=k1.ok.QQ VF;exact Ab (ok.Sl h3 p1.1 (r1.expr k2) hA hit RE ⟨nn.1,nn.2.1,nn.2.2,hit.there _ _ _ RE⟩ (fun hm=>hf (aE _ hm)) (fun hm=>hf (cU _ hm)) (r1.RM VF) (r1.tr.Qy VF))
end
theorem FH:∀ (c:Str->Pos->Bool) (f:Expr->Option Str) (hf:∀ id pos,f (.Name id pos)=if c id pos=true then some id else none),∀ (xps:List (Str×Pos)),((xps.map fun p=>eA p.1 p.2).filterMap f).length<=xps.length/\
  (((xps.map fun p=>eA p.1 p.2).filterMap f).length=xps.length->(xps.map fun p=>eA p.1 p.2).filterMap f=xps.map (·.1)):=by iterate 3
 intro xps;induction xps with
 | nil=>exact ⟨bN _,fun _=>rfl⟩
 | cons p r Qo=>rw [aB,fq,hf];cases h:c p.1 p.2 with | true=>simp only [if_true,aI,aB];exact ⟨by omega,fun q=>by rw [Qo.2 (by omega)]⟩ | false=>simp only [bX,if_false,aI];exact ⟨by omega,fun q=>by omega⟩
theorem xX:∀ {α:Type} {c:Prop} {a b x y:α} [Decidable c] (h1:c->a=x\/a=y) (h2:¬ c->b=x\/b=y),(if c then a else b)=x\/(if c then a else b)=y:=by iterate 9
 by_cases h:c
 ·rw [if_pos h];exact h1 h
 ·rw [if_neg h];exact h2 h
theorem yz:∀ {xps:List (Str×Pos)} {k:Nat} {p:Pos} {e:Expr} {env:Env} (h:uT e=true),lF [.Tuple (xps.map fun p=>eA p.1 p.2) k p] e env=pure none\/lF [.Tuple (xps.map fun p=>eA p.1 p.2) k p] e env=pure (some (xps.map (·.1))):=by iterate 6
 unfold lF;cases e<;>try exact .inl rfl
 rename_i vs k2 p2;dsimp only;refine xX (fun _=> .inl rfl) fun _=>?_;refine xX (fun _=> .inl rfl) fun _=>?_;refine xX (fun _=> .inl rfl) fun hc=>?_;refine xX (fun _=> .inl rfl) fun _=>?_;refine xX (fun hk=>?_) fun _=>?_
 ·exfalso;have h:(!(vs.all (constantsAlone 8)))=true:=h;rw [hk] at h;cases h
 ·right;simp -iota only [jD,bne_iff_ne,ne_eq,not_or,kH] at hc;have:=(FH (fun id pos=>env.kindOf id==some NameKind.local&&pos.line==(Option.map (fun x:Expr=>x.pos.line) (xps.map fun p=>eA p.1 p.2).head?).getD 0) _ (fun _ _=>rfl) xps).2 (by have:=hc.1;rw [aG] at this;exact this);exact congrArg (fun l=>(pure (some l):Sem (Option (List Str)))) this
section
variable {J:Cx} {A:bf} {W W0 W':Wd} {s s0 s':ah} {sc:aX} {st st':St} {env:Env} {ow U2:List Addr} {n:Nat} {B:Bs} {X:List Addr}
theorem vI:∀ {t:Expr} (h:p9 sc st t=true),(∀ x∈oV t,pP sc x=true/\oS st x=true/\Q3 sc env (am env) x)/\db (oV t)=true:=by iterate 2 unfold p9 at h;rw [ai] at h;refine ⟨fun x hx=>?_,h.2⟩;have:=aj.mp h.1 x hx;rw [ai] at this;exact ⟨this.2,this.1,Q3.frame⟩
theorem Jn:∀ {ts:List Expr} {k:Nat} {tp pos:Pos} {e:Expr} {g g1:G} {d:D} {ρ:Qr} (Qw:Ok J n) (h1:p9 sc st (.Tuple ts k tp)=true) (hp:uT e=true) (h2:ceE P0 n sc st e g=some (d,g1)) (h3:bn (.Tuple ts k tp) d st.ρ=some ρ) (hg:W.H=g) (r:Run J W0 s0 B sc env st ow W s) (hA:Qx n A),aD (aC P0 J.w) A (exec (.Assign [.Tuple ts k tp] e pos) env) (qw J W0 s0 B sc env (st.withRho ρ) g1 .next) (fun _ _=>False) s:=by iterate 17
 have hf:=vI (env:=env) h1;rcases qJ h3 with ⟨x,p,hx,_⟩ | ⟨xps,ds,k',p',hx,hd,hl,rfl⟩
 ·cases hx
 ·cases hx;rw [q7] at hf;rcases yz (env:=env) (xps:=xps) (k:=k) (p:=tp) hp with hs | hs
  ·refine Assign_Tuple (Ex.into (Qw.e h2 hg r.ok r.R hA) fun v W1 s1 k1 z0=>?_) tY hs;obtain ⟨Ra,rv⟩:=z0;have r1:=r.expr k1;refine af (um (Y:=am env) hA.1 h3 (by rw [q7];exact hf.1) rv r1.R r1.ok) (fun _ s2 z1=>?_) fun _ _ f=>f;obtain ⟨k2,R2⟩:=z1;exact ⟨W1,Ra,rfl,ow,r1.Tb k2 (fun a ha=> .inl ha) R2⟩
  ·refine Assign_Tuple_swapped (Ex.into (Qw.e h2 hg r.ok r.R hA) fun v W1 s1 k1 z2=>?_) tY hs;obtain ⟨Ra,rv⟩:=z2;have r1:=r.expr k1;refine af (Bv (Y:=am env) hA.1 hd hl hf.2 hf.1 rv r1.R r1.ok) (fun _ s2 h=>af h (fun _ s3 z3=>?_) fun _ _ f=>f) fun _ _ f=>f;obtain ⟨k2,R2⟩:=z3;exact ⟨W1,Ra,rfl,ow,r1.Tb k2 (fun a ha=> .inl ha) R2⟩
theorem wl:∀ {l:Nat} {rows:List (List D)} {a:Addr} (hw:Qs J W s) (h:W.H[l]? =some (.Qz rows)) (ha:W.as[l]? =some a),rows.length<=lim/\∃ vs rs,bS s.heap a vs/\vs.toList=rs.map ef/\W.QK[l]? =some (a::rs)/\rs.length=rows.length/\(∀ (i:Nat) ds r,rows[i]? =some ds->rs[i]? =some r->ds.length<=lim/\∃ ws,bS s.heap r ws/\Qt J W.F W.as ds ws.toList)/\(a::rs).Nodup:=by iterate 6
 have hi:l<W.QK.length:=by rw [hw.Rm];exact (ak.mp h).1
 have z:=hw.obj l _ a _ h ha (au hi);dsimp only [RK] at z;obtain ⟨hl,vs,rs,h1,h2,h3,h4,h5⟩:=z;have hn:=(Rv.mp hw.nodup).1 _ (b5 hi);rw [h3] at hn;exact ⟨hl,vs,rs,h1,h2,by rw [au hi,h3],h4,h5,hn⟩
theorem xW:∀ {l k:Nat} {rows:List (List D)} {ds:List D} {a:Addr} {t:Tok} {value slice:Expr} {Q:ag->ah->Prop} (hw:Qs J W s) (h:W.H[l]? =some (.Qz rows)) (ha:W.as[l]? =some a) (hk:rows[k]? =some ds) (hq:∀ r ws rs,bS s.heap r ws->Qt J W.F W.as ds ws.toList->ds.length<=lim->W.QK[l]? =some (a::rs)->rs[k]? =some r->Q (.ref r) s),aD (aC P0 J.w) A (jh value slice (.ref a) (.int (k:Int) t)) Q (fun _ _=>False) s:=by iterate 14
 obtain ⟨hl,vs,rs,h1,h2,h3,h4,h5,hn⟩:=wl hw h ha;have RO:k<rows.length:=(ak.mp hk).1;have hr:rs[k]? =some (rs[k]'(by omega)):=au (by omega);obtain ⟨hdl,ws,p,rd⟩:=h5 k ds _ hk hr;obtain ⟨ops,ho⟩:=jp slice (.ref a) (.int (k:Int) t);obtain ⟨o,n,e,c,d,dt⟩:=id h1;refine hO ⟨_,e,c⟩ dR.lookup ?_ ho;refine jf (x:= .ref (rs[k]'(by omega))) ⟨o,e,c,n,dt⟩ (az _) ?_ ?_ (hq _ _ _ p rd hdl h3 hr)
 ·have:(lim:Int)<2 ^ 63:=by decide
  omega
 ·rw [aP,<-eP,h2,b8,hr];rfl
theorem AN:∀ {e:Expr} {l:Nat} {i:Expr} (h:qk P0 sc st e=some (l,i)),∃ y yp p,e= .Subscript (.Name y yp) i p/\nameD P0 sc st y=some (.loc l)/\mt y=true:=by iterate 4
 replace h:=qO h;obtain ⟨⟨v,j⟩,h1,y,h2,h⟩:=h;obtain ⟨p,rfl⟩:=Cb h1;obtain ⟨yp,h2⟩:=sj h2;cases (show v=_ from h2);split at h
 ·rename_i hk;replace h:=qO h;obtain ⟨d,h3,l',h4,h⟩:=h;cases h;cases sZ h4;exact ⟨y,yp,p,rfl,h3,hk⟩
 ·cases h
end
theorem sP:∀ {prog:bY} {w:jl} {A:bf} {E:ag->ah->Prop} {s:ah} {l:Addr} {items:Array ag} {k:Int} {t:Tok} {v:ag} {Q:Unit->ah->Prop} {o:Obj} {ne:Nat} (hl:s.heap.IsList l items) (ho:s.heap.get? l=some o) (hd:o.data= .seq items ne) (h0:0<=k) (V0:k<2 ^ 63) (hn:k<items.size) (hQ:Q () {s with heap:=s.heap.update l (iS fun x=>x.setIfInBounds k.toNat v)}),aD (aC prog w) A (setItem (.ref l) (.int k t) v) Q E s:=by iterate 20
 unfold setItem;try with_reducible refine bu ?_
 first | refine ae (ay ?_) | skip
 refine ae (wpAny_sequenceKey hl.typeIs (by decide) ?_);refine ae (dv (name:=bB "__setitem__") hl.typeIs nF
  (eh nF hl.typeIs entry_list_setitem ?_ (args_list_setitem _ _ _)))
 show aD _ _ (oL (.int k t) >>=_) _ _ s;refine ae (wpAny_listSubscript_int (fitsIndex_of h0 V0) ?_);clear V0;obtain ⟨j,rfl⟩:=eE h0;have hj:j<items.size:=by omega
 have hx':items[j]? =some items[j]:=cW hj;show aD _ _ ((seqItemAt l j >>=fun r=>pure (r.map (j,·))) >>=_) _ _ s;refine ae (ae (wpAny_seqItemAt ho hd (ay ?_)));rw [hx'];show aD _ _ (setSeqItemAt l j v >>=_) _ _ s;refine ae (wpAny_setSeqItemAt ho hd ?_);first
  | exact ae (ay (ay ⟨.none,rfl,ay hQ⟩))
  | exact ay ⟨.none,rfl,ay hQ⟩
section
variable {J:Cx} {A:bf} {W W0 W':Wd} {s s0 s':ah} {sc:aX} {st st':St} {env:Env} {ow U2:List Addr} {n:Nat} {B:Bs} {X:List Addr}
theorem yq:∀ {lo hi OJ:Option Expr} {p:Pos} {g:G} {r:D×G},ceE P0 n sc st (.Slice lo hi OJ p) g≠some r:=by iterate 6 intro h;cases n<;>cases h
theorem La:∀ {i:Expr} {g:G} {q:D×G} (h:ceE P0 n sc st i g=some q),∀ ov iv new,augStore i ov iv new=(do lH [new,ov,iv] (setItem ov iv new);release [new,ov,iv] [];pure .next):=by iterate 4 intro ov iv new;cases i<;>first | rfl | exact absurd h yq
theorem tJ:∀ {l:Addr} {items:Array ag} {k:Int} {t:Tok} {v:ag} {Q:Unit->ah->Prop} {E:ag->ah->Prop} (hp:bS s.heap l items) (h0:0<=k) (V0:k<2 ^ 63) (hn:k<items.size) (hQ:∀ h',bS h' l (items.setIfInBounds k.toNat v)->bW l s.heap h'->Q () {s with heap:=h'}),aD (aC P0 J.w) A (setItem (.ref l) (.int k t) v) Q E s:=by iterate 12
 obtain ⟨o,ne,ho,hc,hdn,hd⟩:=id hp;have hl:s.heap.IsList l items:=⟨o,ho,hc,ne,hd⟩
 refine sP hl ho hd h0 V0 hn ?_;have:=ut (f:=fun x=>x.setIfInBounds k.toNat v) ho hc hdn hd;exact hQ _ this (eJ ..)
theorem Run.begin:∀ {x:Str} {o:OW} {ob:Obj} {tk:Nat} {g:G} (r:Run J W0 s0 B sc env st.freeze [] W s) (hg:W.H=g) (hx:pP sc x=true) (hn:Lake.Rw st x o=some st') (Tu:ob.isFreed=false) (ho:∀ h':Heap,h'.get? s.heap.objs.size=some ob->QS J W h' o s.heap.objs.size),aD (aC P0 J.w) A (gV env x (.ref s.heap.objs.size)) (fun _ s'=>qw J W0 s0 B sc env st' g .next .next s') (fun _ _=>False) {s with heap:=s.heap.push ob,toks:=tk}:=by iterate 11 obtain ⟨h1,rfl⟩:=A5 hn;have Rr:s.heap.get? s.heap.objs.size=none:=bv _;have t:=Qp.push (X:=[]) (tk:=tk) r.ok ob;have nn:=r.ok.QQ Rr;have QE:({s with heap:=s.heap.push ob,toks:=tk}:ah).heap.get? s.heap.objs.size=some ob:=ax _ Tu;refine af (Run.Rw (v:= .none) (r.expr t) xf hx h1 ⟨nn.1,nn.2.1,nn.2.2,ob,QE⟩ (fun hm=>r.Q2 Rr (aE _ hm)) (r.RM Rr) (r.tr.Qy Rr) (ho _ QE)) (fun _ s' q=>?_) fun _ _ f=>f;exact ⟨W,hg,rfl,_,q⟩
theorem EO:∀ {x:Str} {xp pos:Pos} {es:List Expr} {lp:Pos} {g g1:G} {ds:List D} (fx:Fx J) (Qw:Ok J n) (hx:pP sc x=true) (h1:ceEs P0 n sc st.freeze es g=some (ds,g1)) (h2:ds.length<=lim) (h3:Rw st x (.lst ds)=some st') (hg:W.H=g) (r:Run J W0 s0 B sc env st ow W s) (hA:Qx n A),aD (aC P0 J.w) A (exec (.Assign [.Name x xp] (.List es lp) pos) env) (qw J W0 s0 B sc env st' g1 .next) (fun _ _=>False) s:=by iterate 17
 obtain ⟨W1,Ra,r1⟩:=r.freeze;refine bj (gU (Ex.into (Qw.es h1 (Ra.trans hg) r1.ok r1.R hA).2.2 fun vs W2 s2 k2 y0=>?_)) rfl;obtain ⟨Sa,rv⟩:=y0;refine ⟨?_,?_⟩
 ·rw [rv.length];exact bw h2 pt
 ·exact Run.begin (tk:=s2.toks) (r1.expr k2) Sa hx h3 rfl fun h' e=>⟨h2,vs.toArray,⟨_,_,e,rfl,rfl,rfl⟩,by simpa using rv⟩
theorem LP:∀ {x:Str} {xp pos:Pos} {lp:Pos} {g:G} (fx:Fx J) (hx:pP sc x=true) (h3:Rw st x (.QH [])=some st') (hg:W.H=g) (r:Run J W0 s0 B sc env st ow W s),aD (aC P0 J.w) A (exec (.Assign [.Name x xp] (.Dict [] [] lp) pos) env) (qw J W0 s0 B sc env st' g .next) (fun _ _=>False) s:=by iterate 10
 obtain ⟨W1,Ra,r1⟩:=r.freeze;refine bj ?_ rfl;rw [eval_Dict_empty];refine ae (bt (dj ?_));refine Run.begin (tk:=s.toks) r1 (Ra.trans hg) hx h3 rfl fun h' e=>⟨by simp,?_,[],⟨_,_,_,e,⟨rfl,rfl,rfl⟩,rfl,fun e he=>by simp at he,.nil,by simp⟩,by dsimp only [Sb]⟩
 obtain ⟨o,e⟩:=fx.WG;have e:=r1.ok.QB _ _ e;have:s.heap.objs.size≠iB:=fun q=>by have z:=bv s.heap;rw [q,e] at z;cases z
 simpa using this
theorem J2:∀ {x:Str} {xp pos lp:Pos} {g:G} (hx:pP sc x=true) (TH:oS st x=true) (hg:W.H=g) (r:Run J W0 s0 B sc env st ow W s),aD (aC P0 J.w) A (exec (.Assign [.Name x xp] (.List [] lp) pos) env) (qw J W0 s0 B sc env (st.withRho ((x,.loc g.length)::st.ρ)) (g++[.Qz []]) .next) (fun _ _=>False) s:=by iterate 9
 refine bj (gU ?_) rfl;refine aZ ⟨by simp,?_⟩;have Rr:s.heap.get? s.heap.objs.size=none:=bv _;have nn:=r.ok.QQ Rr;have t:=Qp.push (X:=[]) (tk:=s.toks) r.ok {cls:= .type "list",data:= .seq ([]:List ag).toArray};have QE:({s with heap:=s.heap.push {cls:= .type "list",data:= .seq ([]:List ag).toArray}}:ah).heap.get? s.heap.objs.size=some {cls:= .type "list",data:= .seq ([]:List ag).toArray}:=ax _ rfl;have t2:=t.Xx (mo:= .Qz []) (a:=s.heap.objs.size) (fp:=[s.heap.objs.size]) (by simp;exact ⟨⟨nn.1,nn.2.1,nn.2.2,_,QE⟩,Rr⟩) (by simp) (by dsimp only [RK];exact ⟨by simp,#[],[],⟨_,_,QE,rfl,rfl,rfl⟩,rfl,rfl,rfl,fun i ds r h=>by simp at h⟩);have rd:Rd J (⟨W.F,W.H++[.Qz []],W.as++[s.heap.objs.size],W.QK++[[s.heap.objs.size]]⟩:Wd).F (W.as++[s.heap.objs.size]) (.loc g.length) (.ref s.heap.objs.size):=by dsimp only [Rd];refine ⟨_,rfl,?_⟩;rw [<-hg,<-r.ok.Rg];simp
 refine af ((r.expr t2).store hx TH rd) (fun _ s2 y1=>?_) fun _ _ f=>f;obtain ⟨_,r2⟩:=y1;refine ⟨_,?_,rfl,ow,r2⟩;show W.H++[.Qz []]=g++[.Qz []];rw [hg]
theorem Ej:∀ {x:Str} {xp i1 pos:Pos} {i e:Expr} {g g1 g2:G} {QC:List (Int×Int)} {v k:Int} (Qw:Ok J n) (ho:st.own=some (x,.QH QC)) (hx:mt x=true) (hp:zp e=true) (h1:ceE P0 n sc st e g=some (.int v,g1)) (h2:ceE P0 n sc st i g1=some (.int k,g2)) (hl:QC.length<lim) (hg:W.H=g) (r:Run J W0 s0 B sc env st ow W s) (hA:Qx n A),aD (aC P0 J.w) A (exec (.Assign [.Subscript (.Name x xp) i i1] e pos) env) (qw J W0 s0 B sc env (qt st x (.QH (put k v QC))) g2 .next) (fun _ _=>False) s:=by iterate 22
 refine lQ (Ex.into (Qw.e h1 hg r.ok r.R hA) fun vv W1 s1 k1 z2=>?_) (AP hp);obtain ⟨Ra,rv⟩:=z2;have r1:=r.expr k1;obtain ⟨_,a,rfl,S6,hv,_⟩:=r1.R.own _ _ ho;refine bq (cr hv r1.R.kind hx ?_) (oP hx).1;refine Ex.into (Qw.e h2 Ra r1.ok r1.R hA) fun kv W2 s2 k2 z3=>?_;obtain ⟨Sa,rk⟩:=z3;have r2:=r1.expr k2;obtain ⟨_,b,hb,_,ZD,S5⟩:=r2.R.own _ _ ho;cases hb;simp only [QS] at S5;obtain ⟨VV,Vd,ws,hd,hdk⟩:=S5;have rv:=rv.mono k2.le k2.as;dsimp only [Rd] at rv rk;obtain ⟨t1,rfl⟩:=rv;obtain ⟨t2,rfl⟩:=rk;have Xc:(ws.map (·.1)).Nodup:=by obtain ⟨_,_,_,_,_,_,_,_,h⟩:=hd;exact h
 refine wpAny_setItem_pairs (knd:=IK J) (k:=k) (decide_eq_true rfl) hd (fun h' Vr sb=>?_) (by rw [hdk.length];have:=pt;omega);refine ⟨W2,Sa,rfl,[a],r2.SG ho sb ⟨?_,Vd,_,Vr,CR hdk Xc⟩⟩;have aap:∀ l:List (Int×Int),(put k v l).length<=l.length+1:=fun l=>by induction l with | nil=>(dsimp only [put];simp) | cons p r ih=>dsimp only [put];split<;>simp;exact ih
 have:=aap QC;omega
theorem M1:∀ {x:Str} {xp pos:Pos} {op:iE} {e:Expr} {g g2:G} {a b d:D} (Qw:Ok J n) (h0:oS st x=true) (h0':pP sc x=true) (hx:mt x=true) (h1:nameD P0 sc st x=some a) (h2:ceE P0 n sc st e g=some (b,g2)) (h3:inop op a b=some d) (hg:W.H=g) (r:Run J W0 s0 B sc env st ow W s) (hA:Qx n A),aD (aC P0 J.w) A (exec (.AugAssign (.Name x xp) op e pos) env) (qw J W0 s0 B sc env (st.withRho ((x,d)::st.ρ)) g2 .next) (fun _ _=>False) s:=by iterate 20
 have hv:varD sc st x=some a:=by unfold nameD at h1;unfold varD;rcases yc h0' with q | q<;>(rw [q] at h1 ⊢;exact h1)
 obtain ⟨va,q1,q2⟩:=r.R.vars x a hv;refine mx (cr q1 r.R.kind hx (Ex.into (Qw.e h2 hg r.ok r.R hA) fun vb W1 s1 k1 z4=>?_));obtain ⟨Ra,rb⟩:=z4;refine Ex.into (wW (X:=[]) h3 (q2.mono k1.le k1.as) rb k1.ok) fun v W2 s2 k2 z5=>?_;obtain ⟨Sa,rv⟩:=z5;exact af ((r.expr (k1.Qn k2)).store h0' h0 rv) (fun _ s3 z6=>by obtain ⟨_,r3⟩:=z6;exact ⟨W2,Sa.trans Ra,rfl,ow,r3⟩) fun _ _ f=>f
theorem DO:∀ {x:Str} {xp i1 pos:Pos} {op:iE} {i e:Expr} {g g1 g2:G} {xs:List D} {k:Nat} {a b d:D} (Qw:Ok J n) (ho:st.own=some (x,.lst xs)) (hx:mt x=true) (h1:ceE P0 n sc st i g=some (.int (k:Int),g1)) (h2:xs[k]? =some a) (h3:ceE P0 n sc st e g1=some (b,g2)) (h4:inop op a b=some d) (hg:W.H=g) (r:Run J W0 s0 B sc env st ow W s) (hA:Qx n A),aD (aC P0 J.w) A (exec (.AugAssign (.Subscript (.Name x xp) i i1) op e pos) env) (qw J W0 s0 B sc env (qt st x (.lst (xs.set k d))) g2 .next) (fun _ _=>False) s:=by iterate 25
 obtain ⟨_,l,rfl,S6,hv,_⟩:=r.R.own _ _ ho;refine wpAny_AugAssign_SubscriptAny (bq (cr hv r.R.kind hx ?_) (oP hx).1) (La h1);refine Ex.into (Qw.e h1 hg r.ok r.R hA) fun kv W1 s1 k1 z7=>?_;obtain ⟨Ra,rk⟩:=z7;have r1:=r.expr k1;dsimp only [Rd] at rk;obtain ⟨tk,rfl⟩:=rk;obtain ⟨_,l',hb,_,_,S5⟩:=r1.R.own _ _ ho;cases hb;simp only [QS] at S5;obtain ⟨hl,vs,p,Zs⟩:=S5;obtain ⟨va,q1,q2⟩:=Zs.get h2;have RO:k<xs.length:=(ak.mp h2).1;have YG:(k:Int)<2 ^ 63:=by
  have:(lim:Int)<2 ^ 63:=by decide
  omega
 obtain ⟨ob,n0,e0,c0,d0,Z3⟩:=id p;refine jf (x:=va) ⟨ob,e0,c0,n0,Z3⟩ (az _) YG (by rw [aP,<-eP];exact q1) ?_;refine Ex.into (Qw.e h3 Ra r1.ok r1.R hA) fun vb W2 s2 k2 z8=>?_;obtain ⟨Sa,rb⟩:=z8;refine Ex.into (wW (X:=[]) h4 (q2.mono k2.le k2.as) rb k2.ok) fun v W3 s3 k3 z9=>?_;obtain ⟨Sk,rv⟩:=z9;have r3:=r1.expr (k2.Qn k3);obtain ⟨_,l',hb,_,_,S5⟩:=r3.R.own _ _ ho;cases hb;simp only [QS] at S5;obtain ⟨hl3,vs3,p3,X9⟩:=S5;have Ru:vs3.size=xs.length:=by rw [<-X9.length,bA]
 refine tJ p3 (az _) YG (by omega) fun h' p' sb=>?_;refine ⟨W3,Sk.trans Sa,rfl,[l],r3.SG ho sb ⟨by simpa using hl3,_,p',?_⟩⟩;rw [aP];refine Qt.of_get (by simp [Ru]) fun i d' v' e1 e2=>?_;rw [Array.toList_setIfInBounds] at e2;rw [gq] at e1 e2;by_cases q:k=i
 ·subst q;rw [if_pos rfl] at e1 e2;split at e1
  ·split at e2
   ·cases e1;cases e2;exact rv
   ·cases e2
  ·rename_i q2;exact absurd RO q2
 ·rw [if_neg q] at e1 e2;obtain ⟨v2,e3,e4⟩:=X9.get e1;rw [e3] at e2;cases e2;exact e4
theorem rC:∀ (r:Run J W0 s0 B sc env st ow W s),kA env=false:=by iterate 1 unfold kA;rw [r.R.kind];rfl
theorem EA:∀ {x:Str} {xp ap cp pos:Pos} {m:Str} {as:List Expr} {g g1:G} {xs ys ds:List D} (Qw:Ok J n) (ho:st.own=some (x,.lst xs)) (c1:(ap.endLine==cp.line)=true) (c2:as.length<30) (hx:mt x=true) (h1:ceEs P0 n sc st as g=some (ds,g1)) (h2:ownMeth m xs ds=some ys) (hg:W.H=g) (r:Run J W0 s0 B sc env st ow W s) (hA:Qx n A),aD (aC P0 J.w) A (exec (.Expr (.Call (.Attribute (.Name x xp) m ap) as [] cp) pos) env) (qw J W0 s0 B sc env (qt st x (.lst ys)) g1 .next) (fun _ _=>False) s:=by iterate 22
 obtain ⟨_,l,rfl,S6,hv,S5⟩:=r.R.own _ _ ho;have e1:=vt (env:=env) (pos:=cp) h1;refine dE ?_ (rC r) rfl;refine cA p0 ?_ c1 rfl (bq (cr hv r.R.kind hx ?_) (oP hx).1)
 ·simp only [ai,decide_eq_true_eq];exact ⟨⟨qK e1,rfl⟩,by simpa using c2⟩
 ·have Tu:∃ o,s.heap.get? l=some o/\o.cls= .type "list" /\o.dict=none:=by
   simp only [QS] at S5;obtain ⟨_,vs,⟨o,n,e,c,d,_⟩,_⟩:=S5;exact ⟨o,e,c,d⟩
  obtain ⟨o,eo,co,dO⟩:=Tu;obtain ⟨id,f1,f2,f3⟩:=Gl (J:=J) h2;refine ⟨"list",id,cI,f1,f2,⟨o,eo,co⟩,fun b q=>by cases q;exact ⟨o,eo,dO⟩,?_⟩;refine ii e1 (Ex.into (Qw.es h1 hg r.ok r.R hA).2.2 fun vs W1 s1 k1 z0=>?_);obtain ⟨Ra,rv⟩:=z0;have r1:=r.expr k1;obtain ⟨_,l',hb,_,_,Xb⟩:=r1.R.own _ _ ho;cases hb;refine af (f3 Xb rv k1.ok) (fun v s2 z1=>?_) fun _ _ f=>f;obtain ⟨hv,h',tk,hs,sb,ho'⟩:=z1;subst hs;exact ⟨W1,Ra,rfl,[l],r1.SG ho sb ho'⟩
theorem LI:∀ {x:Str} {xp ap cp pos:Pos} {m:Str} {as:List Expr} {g g1 g2 g3:G} {ds:List D} {l:Nat} {d:D} (Qw:Ok J n) (lx:Lx J n) (c1:(ap.endLine==cp.line)=true) (c2:as.length<30) (h0:ceE P0 n sc st (.Name x xp) g=some (.loc l,g1)) (h1:ceEs P0 n sc st as g1=some (ds,g2)) (h2:methD m (.loc l) ds g2=some (d,g3)) (clv:J8 m<=n) (hk:g1[l]?.map kindOf=g2[l]?.map kindOf) (hg:W.H=g) (r:Run J W0 s0 B sc env st ow W s) (Q4:Qx (n+1) A),aD (aC P0 J.w) A (exec (.Expr (.Call (.Attribute (.Name x xp) m ap) as [] cp) pos) env) (qw J W0 s0 B sc env st g3 .next) (fun _ _=>False) s:=by iterate 26 have hA:Qx n A:=Q4.le (bV n);refine dE ?_ (rC r) rfl;rw [jj,p0];refine ae (Ex.into (Qw.e h0 hg r.ok r.R hA) fun va W1 s1 k1 y0=>?_);obtain ⟨Ra,ra⟩:=y0;refine ae (bt ?_);obtain ⟨e1,e2,e3⟩:=Qw.es (pos:=cp) h1 Ra k1.ok (r.R.QG k1) hA;exact Ex.into (lx.Te h2 clv (by subst Ra;exact hk) ra k1.ok (Q4.le (by omega)) e1 (by simpa using c2) c1 e3) fun v W2 s2 k2 r2=>⟨W2,r2.1,rfl,ow,r.expr (k1.Qn k2)⟩
theorem Fg:∀ {x:Str} {xp:Pos} {g g1:G} {d:D} (h:ceE P0 n sc st (.Name x xp) g=some (d,g1)),mt x=true/\nameD P0 sc st x=some d/\g1=g:=by iterate 6 cases n with | zero=>cases h | succ n=>obtain ⟨u,h1,d',h2,h3⟩:=qO h;cases h3;exact ⟨dl h1,h2,rfl⟩
theorem FJ:∀ {x:Str} {xp ap cp pos lp:Pos} {g g1:G} {l:Nat} {rows:List (List D)} (Qw:Ok J n) (c1:(ap.endLine==cp.line)=true) (h0:ceE P0 n sc st (.Name x xp) g=some (.loc l,g1)) (h1:g1[l]? =some (.Qz rows)) (h2:rows.length<lim) (hg:W.H=g) (r:Run J W0 s0 B sc env st ow W s) (hA:Qx n A),aD (aC P0 J.w) A (exec (.Expr (.Call (.Attribute (.Name x xp) "append" ap) [.List [] lp] [] cp) pos) env) (qw J W0 s0 B sc env st (g1.set l (.Qz (rows++[[]]))) .next) (fun _ _=>False) s:=by iterate 18
 refine dE ?_ (rC r) rfl;refine cA p0 ?_ c1 rfl (Ex.into (Qw.e h0 hg r.ok r.R hA) fun va W1 s1 k1 ⟨Ra,ra⟩=>?_)
 ·rfl
 ·dsimp only [Rd] at ra;obtain ⟨a,rfl,ha⟩:=ra;have r1:=r.expr k1;subst Ra;obtain ⟨hl,vs,rs,p,q2,q3,q4,q5,q6⟩:=wl k1.ok h1 ha;obtain ⟨o,n0,eo,co,dO,dt⟩:=id p;refine ⟨"list","list.append",cI,fG,fE,⟨o,eo,co⟩,fun b q=>by cases q;exact ⟨o,eo,dO⟩,?_⟩;refine ii rfl ?_;refine aR (gU (aZ ⟨by simp,?_⟩)) rfl;refine aZ ?_;have Rr:s1.heap.get? s1.heap.objs.size=none:=bv _;have Rt:a≠s1.heap.objs.size:=fun q=>by rw [q,Rr] at eo;cases eo
  have p1:bS (s1.heap.push {cls:= .type "list",data:= .seq ([]:List ag).toArray}) a vs:=bS.keep p fun o e=>aF _ e;have Ru:vs.size=rows.length:=by rw [<-bA,q2,aG,q4]
  refine af (tZ (x:= .ref s1.heap.objs.size) p1 (by omega)) (fun v s2 z4=>?_) fun _ _ f=>f;obtain ⟨hv,h',tk,hs,sb,p'⟩:=z4;subst hs;have QE:(s1.heap.push {cls:= .type "list",data:= .seq ([]:List ag).toArray}).get? s1.heap.objs.size=some {cls:= .type "list",data:= .seq ([]:List ag).toArray}:=ax _ rfl;have kk:∀ b o,b≠a->s1.heap.get? b=some o->h'.get? b=some o:=fun b o hb e=>(sb.2 b hb).trans (aF _ e);have rn:∀ i r,rs[i]? =some r->r≠a:=fun i r hr q=>by rw [cB] at q6;exact q6.1 (q▸bL hr)
  have vQ:∀ b∈a::rs,∃ o,s1.heap.get? b=some o:=fun b hb=>(k1.ok.RI b (qP q3 hb)).2.2;have g2:=Qp.VA (X:=[]) (tk:=tk) (mo':= .Qz (rows++[[]])) (fp':=a::(rs++[s1.heap.objs.size])) (h':=h') k1.ok ha q3
   (fun b o hb e=>kk b o (fun q=>hb (by simp [q])) e)
   (fun b hb=>by
    by_cases q:b=a
    ·subst q;obtain ⟨o,_,e,_⟩:=p';exact ⟨o,e⟩
    ·obtain ⟨o,e⟩:=vQ b hb;exact ⟨o,kk b o q e⟩)
   (by
    dsimp only [RK];refine ⟨by simp;omega,_,rs++[s1.heap.objs.size],p',?_,rfl,by simp [q4],fun i ds r e1 e2=>?_⟩
    ·rw [gh,q2];simp
    ·by_cases hi:i<rows.length
     ·rw [bg hi] at e1;rw [bg (by omega)] at e2;obtain ⟨z1,ws,z2,z3⟩:=q5 i ds r e1 e2;exact ⟨z1,ws,bS.keep z2 fun o e=>kk _ _ (rn i r e2) e,z3⟩
     ·have YI:i=rows.length:=by
       have:=(ak.mp e1).1;simp at this;omega
      subst YI;rw [aT (bN _)] at e1;rw [aT (by omega),q4] at e2;simp at e1 e2;subst e1;subst e2;refine ⟨by simp,#[],⟨_,_,(sb.2 _ (dz Rt)).trans QE,rfl,rfl,rfl⟩,by dsimp only [Qt]⟩)
   (fun b hb=>by
    rcases aq.mp hb with rfl | hb
    ·exact .inl (by simp)
    ·rcases bF.mp hb with hb | hb
     ·exact .inl (av _ hb)
     ·simp at hb;subst hb;exact .inr Rr)
   (by
    rw [cB] at q6 ⊢;refine ⟨fun hm=>?_,?_⟩
    ·rcases bF.mp hm with hm | hm
     ·exact q6.1 hm
     ·simp at hm;exact Rt hm
    ·rw [gn];refine ⟨q6.2,by simp,fun x hx y hy=>?_⟩;simp at hy;subst hy;rintro rfl;obtain ⟨o,e⟩:=vQ _ (av _ hx);rw [Rr] at e;cases e)
  exact ⟨_,rfl,rfl,ow,r1.expr g2⟩
theorem B0:∀ {pos:Pos} {E:ag->ah->Prop} {es:List Expr} (fx:Fx J) (hw:Qs J W s) (R:Qq J W s.heap sc st env ow),∀ {ds:List D},wc P0 sc st es=some ds->aD (aC P0 J.w) A (eM (kC pos (eL es env))) (fun vs s'=>s'=s/\Qt J W.F W.as ds vs) E s:=by iterate 6
 induction es with
 | nil=>intro ds h;cases h;exact aZ ⟨rfl,rfl⟩
 | cons e es ih=>intro ds h;replace h:=Aa h;obtain ⟨x,h0,u,h1,d,h2,Z4,h3,h4⟩:=h;cases h4;obtain ⟨p,rfl⟩:=sj h0;refine aR (af (vT fx h2 (dl h1) hw R) (fun v s1 q=>?_) fun _ _ f=>f) rfl;rw [q.1];exact af (ih h3) (fun vs s2 p=>⟨p.1,v,vs,rfl,q.2,p.2⟩) fun _ _ f=>f
theorem GM:∀ {t:Str} {tp ap cp pos ip lp:Pos} {i:Expr} {es:List Expr} {g g1 g2:G} {l k:Nat} {rows:List (List D)} {xs ys:List D} (fx:Fx J) (Qw:Ok J n) (c1:(ap.endLine==cp.line)=true) (h0:ceE P0 n sc st (.Name t tp) g=some (.loc l,g1)) (h1:ceE P0 n sc st i g1=some (.int (k:Int),g2)) (h2:wc P0 sc st es=some ys) (h3:g2[l]? =some (.Qz rows)) (h4:rows[k]? =some xs) (h5:(xs++ys).length<=lim) (hg:W.H=g) (r:Run J W0 s0 B sc env st ow W s) (hA:Qx n A),aD (aC P0 J.w) A (exec (.Expr (.Call (.Attribute (.Subscript (.Name t tp) i ip) "extend" ap) [.List es lp] [] cp) pos) env) (qw J W0 s0 B sc env st (g2.set l (.Qz (rows.set k (xs++ys)))) .next) (fun _ _=>False) s:=by iterate 29
 refine dE ?_ (rC r) rfl;refine cA rfl rfl c1 rfl (jH (Ex.into (Qw.e h0 hg r.ok r.R hA) fun va W1 s1 k1 y0=>?_));obtain ⟨Ra,ra⟩:=y0;refine Ex.into (Qw.e h1 Ra k1.ok (r.R.QG k1) hA) fun vi W2 s2 k2 z1=>?_;obtain ⟨Sa,ri⟩:=z1;have r2:=r.expr (k1.Qn k2);have ra:=ra.mono k2.le k2.as;dsimp only [Rd] at ra ri;obtain ⟨a,rfl,ha⟩:=ra;obtain ⟨ti,rfl⟩:=ri;subst Sa;refine xW k2.ok h3 ha h4 fun rA ws rs p rws ZA q3 hr=>?_;obtain ⟨hl,vs,SU,pT,q2,q3',q4,q5,q6⟩:=wl k2.ok h3 ha;have:SU=rs:=by rw [q3] at q3';cases q3';rfl
 subst this;obtain ⟨o,n0,eo,co,dO,dt⟩:=id p;refine ⟨"list","list.extend",cI,fF,jx,⟨o,eo,co⟩,fun b q=>by cases q;exact ⟨o,eo,dO⟩,?_⟩;refine ii rfl ?_;refine aR (gU (af (B0 fx k2.ok r2.R h2) (fun WB s3 y1=>?_) fun _ _ f=>f)) rfl;obtain ⟨hs,rys⟩:=y1;refine ⟨?_,?_⟩
 ·rw [rys.length];rw [aw] at h5;have:=pt;omega
 ·subst hs;refine aZ ?_;have Rr:s3.heap.get? s3.heap.objs.size=none:=bv _;have Rt:rA≠s3.heap.objs.size:=fun q=>by rw [q,Rr] at eo;cases eo
  have p1:bS (s3.heap.push {cls:= .type "list",data:= .seq WB.toArray}) rA ws:=bS.keep p fun o e=>aF _ e;have QE:(s3.heap.push {cls:= .type "list",data:= .seq WB.toArray}).get? s3.heap.objs.size=some {cls:= .type "list",data:= .seq WB.toArray}:=ax _ rfl;have ZC:ws.size=xs.length:=by rw [<-rws.length,bA]
  have hyl:=rys.length;refine af (wB (s:={s3 with heap:=s3.heap.push {cls:= .type "list",data:= .seq WB.toArray}}) (ws:=WB.toArray) p1 QE rfl rfl (by rw [aw] at h5;simp;omega)) (fun v s4 z3=>?_) fun _ _ f=>f;obtain ⟨hv,h',tk,hs,sb,p'⟩:=z3;subst hs;have kk:∀ b o,b≠rA->s3.heap.get? b=some o->h'.get? b=some o:=fun b o hb e=>(sb.2 b hb).trans (aF _ e);have hrA:rA∈SU:=bL hr;rw [cB] at q6;have aA:a≠rA:=fun q=>q6.1 (q▸hrA);have g2:=Qp.VA (X:=[]) (tk:=tk) (mo':= .Qz (rows.set k (xs++ys))) (fp':=a::SU) (h':=h') k2.ok ha q3
   (fun b o hb e=>kk b o (fun q=>hb (av _ (q▸hrA))) e)
   (fun b hb=>by
    by_cases q:b=rA
    ·subst q;obtain ⟨o,_,e,_⟩:=p';exact ⟨o,e⟩
    ·obtain ⟨o,e⟩:=(k2.ok.RI b (qP q3 hb)).2.2;exact ⟨o,kk b o q e⟩)
   (by
    dsimp only [RK];refine ⟨by simpa using hl,_,SU,bS.keep pT fun o e=>kk _ _ aA e,q2,rfl,by simpa using q4,fun j ds r e1 e2=>?_⟩;rw [gq] at e1;by_cases hj:k=j
    ·subst hj;rw [if_pos rfl] at e1;split at e1
     ·cases e1;rw [hr] at e2;cases e2;exact ⟨h5,_,p',by simpa using rws.append rys⟩
     ·cases e1
    ·rw [if_neg hj] at e1;obtain ⟨z1,us,z2,z3⟩:=q5 j ds r e1 e2;refine ⟨z1,us,bS.keep z2 fun o e=>kk _ _ (fun q=>hj ?_) e,z3⟩;subst q;obtain ⟨hj1,e3⟩:=ak.mp e2;obtain ⟨Sz,e4⟩:=ak.mp hr;have nd:=q6.2;unfold List.Nodup at nd;rw [fW] at nd;rcases Nat.lt_trichotomy k j with z | z | z
     ·exact absurd (e4.trans e3.symm) (nd k j Sz hj1 z)
     ·exact z
     ·exact absurd (e3.trans e4.symm) (nd j k hj1 Sz z))
   (fun b hb=> .inl hb)
   (cB.mpr q6)
  exact ⟨_,rfl,rfl,ow,r2.expr g2⟩
theorem Na:∀ {ts:List Expr} {k0:Nat} {tp pos yp ip:Pos} {y:Str} {i:Expr} {g g1:G} {l k:Nat} {rows:List (List D)} {ds:List D} {ρ:Qr} (Qw:Ok J n) (fx:Fx J) (hy:nameD P0 sc st y=some (.loc l)) (hy':mt y=true) (h1:p9 sc st (.Tuple ts k0 tp)=true) (h2:ceE P0 n sc st i g=some (.int (k:Int),g1)) (h3:g1[l]? =some (.Qz rows)) (h4:rows[k]? =some ds) (h5:yP ts ds st.ρ=some ρ) (hg:W.H=g) (r:Run J W0 s0 B sc env st ow W s) (hA:Qx n A),aD (aC P0 J.w) A (exec (.Assign [.Tuple ts k0 tp] (.Subscript (.Name y yp) i ip) pos) env) (qw J W0 s0 B sc env (st.withRho ρ) g1 .next) (fun _ _=>False) s:=by iterate 27
 have hf:=vI (env:=env) h1;obtain ⟨xps,rfl,hl,rfl⟩:=xj h5;rw [q7] at hf;refine Assign_Tuple (jH (af (vT fx hy hy' r.ok r.R) (fun va s1 z4=>?_) fun _ _ f=>f)) tY rfl;obtain ⟨hs,ra⟩:=z4;subst hs;refine Ex.into (Qw.e h2 hg r.ok r.R hA) fun vi W2 s2 k2 z5=>?_;obtain ⟨Sa,ri⟩:=z5;have r2:=r.expr k2;have ra:=ra.mono k2.le k2.as;dsimp only [Rd] at ra ri;obtain ⟨a,rfl,ha⟩:=ra;obtain ⟨ti,rfl⟩:=ri;subst Sa;refine xW k2.ok h3 ha h4 fun rA ws rs p rws ZA q3 hr=>?_;rw [nY];refine ae (bt ?_);unfold unpack;rw [sC];have RE:(xps.map fun p=>(false,assign (.Name p.1 p.2) env)).findIdx? (·.1)=none:=by rw [jZ];intro x hx;obtain ⟨p,_,rfl⟩:=aH.mp hx;rfl
 rw [RE];obtain ⟨o,n0,eo,co,dO,dt⟩:=id p;have ZC:(xps.map fun p=>(false,assign (.Name p.1 p.2) env)).length=ws.size:=by rw [aG,hl,<-rws.length,bA]
 rw [ZC];refine ae (bu (sL hA.1 ⟨o,eo,co,n0,dt⟩ fun h' e=>?_));have k3:=k2.ok.SP (tk:=s2.toks) e;have r3:=r2.expr k3;refine af (tV (Y:=am env) (xs:=xps.map (·.1)) (ds:=ds) (st:=st) (fun i f x a b v Q E s q=>?_) (by simp) (by simpa using hl) rws hf.1 r3.R r3.ok) (fun _ s4 ⟨k4,R4⟩=>?_) fun _ _ f=>f
 ·simp only [b7,b8,ba] at a b;obtain ⟨q1,e1,rfl⟩:=a;obtain ⟨q2,e2,rfl⟩:=b;rw [e1] at e2;cases e2;exact cQ q
 ·exact ⟨W2,rfl,rfl,ow,r3.Tb k4 (fun a ha=> .inl ha) R4⟩
theorem LB:∀ (fx:Fx J) (lx:Lx J n) (Qw:Ok J n) (ok:TO J n) (gen:pL J n),∀ {sc st x g fl st' g' env ow A W0 s0 B W s},ceS P0 (n+1) sc st x g=some (fl,st',g')->W.H=g->Run J W0 s0 B sc env st ow W s->Qx (n+1) A->aD (aC P0 J.w) A (exec x env) (qw J W0 s0 B sc env st' g' fl) (fun _ _=>False) s:=by iterate 5
 intro sc st x g fl st' g' env ow A W0 s0 B W s h hg r Q4;have hA:Qx n A:=Q4.le (bV n);replace h:KK P0 (fs P0 n) sc st n g (sv x)=some (fl,st',g'):=h;generalize sv x=v at h;cases v with
 | ret e p=>replace h:=bi h;obtain ⟨⟨d,g1⟩,h1,h2⟩:=h;cases h2;obtain ⟨W1,Ra,r1⟩:=r.freeze;exact cm (Ex.into (Qw.e h1 (Ra.trans hg) r1.ok r1.R hA) fun v W2 s2 k2 p2=>⟨W2,p2.1,v,rfl,p2.2,(r1.expr k2).tr⟩)
 | if_ t b o p=>
  replace h:=bi h;obtain ⟨⟨c,g1⟩,h1,h2⟩:=h;refine fC (Ex.into (Qw.t h1 hg r.ok r.R hA) fun b W1 s1 k1 p1=>?_);cases p1.1;have r1:=r.expr k1;split at h2
  ·rename_i hb;rw [if_pos hb];exact ok.ss h2 p1.2 r1 hA
  ·rename_i hb;rw [if_neg hb];exact ok.ss h2 p1.2 r1 hA
 | Rl t b p=>exact wpAny_While (cP (ok.Rl h hg r hA) fun r' s' z0=>by obtain ⟨f,hr,h⟩:=z0;subst hr;exact h)
 | Sl t it b p=>exact Oc fx Qw ok gen h hg r hA
 | asg x xp e pos=>
  replace h:sQ (fs P0 n) sc st x e g=some (fl,st',g'):=h;unfold sQ at h;cases hl:tK e with
  | some es=>
   rw [hl] at h;dsimp only at h;obtain ⟨lp,rfl⟩:=wx hl;split at h
   ·rename_i hn;have hn:=BO (bx.mp hn).1;replace h:=bi h;obtain ⟨u,h1,h2⟩:=h;cases h2;have h1:=bx.mp (dl h1);cases hn;exact J2 h1.2 h1.1 hg r
   ·replace h:=Aa h;obtain ⟨u,h1,⟨ds,g1⟩,h2,u',h3,QZ,h4,h5⟩:=h;cases h5;exact EO fx Qw (dl h1) h2 (of_decide_eq_true (dl h3)) h4 hg r hA
  | none=>
   rw [hl] at h;dsimp only at h;split at h
   ·rename_i hd;obtain ⟨p,rfl⟩:=AK hd;replace h:=qO h;obtain ⟨u,h1,QZ,h2,h3⟩:=h;cases h3;exact LP fx (dl h1) h2 hg r
   ·cases hq:(re (oS st x&&pP sc x)).bind fun _=>(fs P0 n).e sc st e g with | some y=>rw [hq] at h;cases h;obtain ⟨u,h1,h2⟩:=bi hq;have h1:=bx.mp (dl h1);exact wA Qw h2 hg r hA h1.2 h1.1 | none=>rw [hq] at h;replace h:=qO h;obtain ⟨u,h1,⟨d,g1⟩,h2,h3⟩:=h;cases h3;obtain ⟨W1,Ra,r1⟩:=r.freeze;exact wA Qw h2 (Ra.trans hg) r1 hA (dl h1) (by unfold oS;rw [xf])
 | Zh ts k tp e pos=>replace h:(match qk P0 sc st e with | some q=>_ | none=>_)=some (fl,st',g'):=h;cases hr:qk P0 sc st e with | some q=>rw [hr] at h;obtain ⟨y,yp,p,rfl,hy,hy'⟩:=AN (show qk P0 sc st e=some (q.1,q.2) from hr);replace h:=vK h;obtain ⟨u,h1,⟨d,g1⟩,h2,k',h3,h⟩:=h;replace h:=Aa h;obtain ⟨o,h4,rows,h5,ds,h6,ρ,h7,h8⟩:=h;cases h8;cases (show d=_ from qC h3);cases rX h5;exact Na Qw fx hy hy' (dl h1) h2 h4 h6 h7 hg r hA | none=>rw [hr] at h;replace h:=vK h;obtain ⟨u,h1,⟨d,g1⟩,h2,ρ,h3,h4⟩:=h;cases h4;have h1:=bx.mp (dl h1);exact Jn Qw h1.1 h1.2 h2 h3 hg r hA
 | X8 x xp i ip e pos=>replace h:=vK h;obtain ⟨QC,h1,u,h2,⟨d,g1⟩,h3,h⟩:=h;replace h:=Aa h;obtain ⟨⟨k,g2⟩,h4,v',h5,k',h6,u',h7,h8⟩:=h;cases h8;have h2:=bx.mp (dl h2);cases (show d=_ from be h5);cases (show k=_ from be h6);exact Ej Qw (wz h1) h2.1 h2.2 h3 h4 (of_decide_eq_true (dl h7)) hg r hA
 | aug x xp op e pos=>replace h:=Aa h;obtain ⟨u,h1,⟨a,g1⟩,h2,⟨b,g2⟩,h3,d,h4,h5⟩:=h;cases h5;have h1:=bx.mp (dl h1);obtain ⟨q1,q2,rfl⟩:=Fg h2;exact M1 Qw h1.1 h1.2 q1 q2 h3 h4 hg r hA
 | Zg x xp i ip op e pos=>replace h:=vK h;obtain ⟨xs,h1,u,h2,⟨k,g1⟩,h3,h⟩:=h;replace h:=Aa h;obtain ⟨k',h4,a,h5,⟨b,g2⟩,h6,d,h7,h8⟩:=h;cases h8;cases (show k=_ from qC h4);exact DO Qw (wP h1) (dl h2) h3 h5 h6 h7 hg r hA
 | Te x xp m ap as cp pos=>
  replace h:qj (fs P0 n) sc st n x xp m ap as cp g=some (fl,st',g'):=h;unfold qj at h;cases ho:tQ st x with
  | some xs=>rw [ho] at h;replace h:=vK h;obtain ⟨u,h1,⟨ds,g1⟩,h2,ys,h3,h4⟩:=h;cases h4;have h1:=dl h1;simp only [ai] at h1;exact EA Qw (wP ho) h1.1.1 (of_decide_eq_true h1.1.2) h1.2 h2 h3 hg r hA
  | none=>
   rw [ho] at h;replace h:=vK h;obtain ⟨u,h1,⟨d,g1⟩,h2,l,h3,h4⟩:=h;have h1:=dl h1;simp only [ai] at h1;cases (show d=_ from sZ h3);split at h4
   ·rename_i hm;cases eq_of_beq hm;replace h4:=vK h4;obtain ⟨a,q1,es,q2,_,q3,h4⟩:=h4;replace h4:=vK h4;obtain ⟨o,h5,rows,h6,u',h7,h8⟩:=h4;cases h8;cases rX h6;cases oY q3;cases oX q1;obtain ⟨lp,rfl⟩:=wx q2;exact FJ Qw h1.1.1 h2 h5 (of_decide_eq_true (dl h7)) hg r hA
   ·replace h4:=Aa h4;obtain ⟨u',h5,⟨ds,g2⟩,h6,u2,h9,⟨d,g3⟩,h7,h8⟩:=h4;cases h8;exact LI Qw lx h1.1.1 (of_decide_eq_true h1.1.2) h2 h6 h7 (of_decide_eq_true h1.2) (eq_of_beq (dl h9)) hg r Q4
 | ext t tp i ip m ap es lp cp pos=>replace h:=Aa h;obtain ⟨u,h1,⟨d,g1⟩,h2,l,h3,⟨k,g2⟩,h4,h⟩:=h;replace h:=Aa h;obtain ⟨k',h5,ys,h6,o,h7,rows,h8,h⟩:=h;replace h:=qO h;obtain ⟨xs,h9,u',h10,h11⟩:=h;cases h11;have h1:=bx.mp (dl h1);cases eq_of_beq h1.1;cases (show d=_ from sZ h3);cases (show k=_ from qC h5);cases rX h8;exact GM fx Qw h1.2 h2 h4 h6 h7 h9 (of_decide_eq_true (dl h10)) hg r hA
 | other s=>cases h
theorem G7:∀ (fx:Fx J) (lx:Lx J n) (Qw:Ok J n) (ok:TO J n) (gen:pL J n),TO J (n+1):=by iterate 5
 exact {
  ss:=IL ok
  s_:=LB fx lx Qw ok gen
  Rl:=BW Qw ok
  Sl:=GK ok}
end
structure Sp (J:Cx) (n:Nat):Prop where
 sp:∀ {f h ds g d g'},special f=some h->h ds g=some (d,g')->30<=n->∃ fv,pV J f fv/\∀ {A W s vs},Qx n A->W.H=g->Qt J W.F W.as ds vs->Qs J W s->Ex J A (call fv vs) [] W s (li J d g')
section
variable {J:Cx} {A:bf} {W:Wd} {s:ah} {n:Nat}
theorem Qx.deeper:∀ {env:Env} (h:Qx (n+1) A),Qx n (A.deeper env):=by iterate 2 exact (⟨h.1,by have:=h.2.1;show A.depth+1+n+60<_;omega,by have:=h.2.2;show A.units+3+8 * n+400<mj;omega⟩)
theorem QA.at:∀ {F:PM} {cd:ag} {q:Str} {h:Heap} (x:QA F cd q) (k:∀ a o,F a=some o->h.get? a=some o),h.CodeRec cd q:=by iterate 6 exact ((by obtain ⟨c,o,vs,t,e,g,r⟩:=x;exact ⟨c,o,vs,t,e,k _ _ g,r⟩))
theorem uu:∀ {f:Str} {fn:Fn} {a:Addr} {mg mb:Str->Option ag} (h1:Uj (F0 J) bC mg) (h2:Uj (F0 J) bU mb) (h3:mg f=some (.ref a)) (h4:FnAt J (F0 J) a fn),pV J f (.ref a):=by iterate 9 refine ⟨⟨mg,mb,h1,h2,.inl h3⟩,fun h hl=>?_⟩;obtain ⟨o,fd,e,hd,_⟩:=h4.obj;have:=hl a o e;obtain ⟨oc,od,dt,sl⟩:=o;dsimp only at hd;subst hd;exact cX h ⟨oc,od,fd,sl,this⟩
theorem vo:∀ {fn:Fn} {a:Addr} {ds:List D} {vs:List ag} {R:iy->ah->Prop} (fx:Fx J) (QE:FnAt J (F0 J) a fn) (hl:fn.params.length=ds.length) (hA:A.depth<cw) (hd:Qt J W.F W.as ds vs) (hw:Qs J W s) (h:∀ env Ql,Run J W s ⟨W,Ql,[]⟩ fn.scope env ⟨fn.params.zip ds,[],none⟩ [] W Ql->(∃ o fd,F0 J a=some o/\o.data= .func fd/\env=fc fd s.heap.objs.size a)->aD (aC P0 J.w) (A.deeper env) (gg fn.body env) (fun f s'=>R (.ok (.ret (match f with | .ret v=>v | _=> .none))) s') (fun _ _=>False) Ql),bQ (aC P0 J.w) A (.call (.ref a) ⟨vs,[]⟩) R s:=by iterate 12
 obtain ⟨o,fd,e,ZR,YT,Ve,abb,To,V3,RH,YU⟩:=QE.obj;have Wt:=QE.good;have Vn:=Wt;simp only [wu,ai] at Vn;obtain ⟨⟨⟨⟨⟨⟨k1,k2⟩,k3⟩,k4⟩,k5⟩,k7⟩,k6⟩:=Vn;refine codeAny_call_cells hA (hw.QB a o e) ZR ?_ (RH.at hw.QB) YT (YU vs (by rw [hl,<-hd.length])) To ?_ (fun Ql x=>?_) (by rw [Ve];simpa using k2) (by rw [Ve];simpa using k3) (by rw [Ve];simpa using k1)
 ·obtain ⟨mc,q1,q2⟩:=fx.SI;exact ⟨mc,q1.ns hw.QB,q2⟩
 ·intro y hy;have hy1:y.1∈fn.params:=(hE hy).1;have:=aj.mp k4 _ hy1;rw [Ve];rcases yc this with q | q
  ·exact .inl q
  ·exact .inr ⟨q,sw _ _ _ (.inl (al q))⟩
 ·obtain ⟨t1,t2,t3⟩:=FU hw hd hl Wt Ve abb V3 x;exact af (h _ Ql (Run.start hw t1 t2 t3 (fun a h=>by cases h)) ⟨o,fd,e,ZR,rfl⟩) (fun f s' q=>q) fun _ _ q=>q.elim
theorem sG:∀ {fn:Fn} {a:Addr} {ds:List D} {vs:List ag} {Q:ag->ah->Prop} (fx:Fx J) (QE:FnAt J (F0 J) a fn) (hl:fn.params.length=ds.length) (hA:A.depth<cw) (hd:Qt J W.F W.as ds vs) (hw:Qs J W s) (h:∀ env Ql,Run J W s ⟨W,Ql,[]⟩ fn.scope env ⟨fn.params.zip ds,[],none⟩ [] W Ql->aD (aC P0 J.w) (A.deeper env) (gg fn.body env) (fun f s'=>Q (match f with | .ret v=>v | _=> .none) s') (fun _ _=>False) Ql),aD (aC P0 J.w) A (call (.ref a) vs) Q (fun _ _=>False) s:=by iterate 12 exact (eV (vo fx QE hl hA hd hw fun env Ql r _=>h env Ql r))
theorem ET:∀ (fx:Fx J) (sp:Sp J n) (ok:TO J n),wh J (n+1):=by iterate 3
 intro f ds g d g' h;replace h:rF P0 (fs P0 n) n f ds g=some (d,g'):=h;unfold rF at h;cases e:special f with
 | some hh=>rw [e] at h;replace h:=bi h;obtain ⟨u,hc,h⟩:=h;obtain ⟨fv,h1,h2⟩:=sp.sp e h (of_decide_eq_true (dl hc));exact ⟨fv,h1,fun hA=>h2 (hA.le (bV n))⟩
 | none=>rw [e] at h;replace h:=Aa h;obtain ⟨fn,hf,u,hc,⟨fl,st',g1⟩,hb,d1,h,h'⟩:=h;cases h';have hc:=bx.mp (dl hc);obtain ⟨mg,mb,V8,g2,_,_,_,_,_,_,_,_,_,gf⟩:=fx.glob;obtain ⟨a,ha,QE⟩:=gf f fn hf;have QE:=QE (by simpa using hc.2);refine ⟨.ref a,uu V8 g2 ha QE,fun {A W s vs} hA hg hd hw=>?_⟩;refine sG fx QE (eq_of_beq hc.1) (by have:=hA.2.1;omega) hd hw fun env Ql R=>?_;refine af (ok.ss hb hg R hA.deeper) (fun f s' q=>?_) fun _ _ q=>q.elim;obtain ⟨W',ZO,q⟩:=q;cases fl with | next=>cases h | ret d'=>cases h;obtain ⟨v,rfl,rv,tr⟩:=q;exact ⟨W',tr,ZO,rv⟩
theorem zN:∀ (fx:Fx J) (gen:∀ n,TO J n->pL J (n+1)) (TM:pL J 0),∀ n,(∀ m<n,Lx J m/\Sp J m)->Ok J n/\TO J n/\wh J n/\pL J n:=by iterate 3
 intro n;induction n with
 | zero=>exact fun _=>⟨IN,Gx,(fun h=>by cases h),TM⟩
 | succ n ih=>intro lx;obtain ⟨a,b,c,d⟩:=ih fun m hm=>lx m (iT hm);obtain ⟨l,sp⟩:=lx n (jq n);exact ⟨IZ fx l a c,G7 fx l a b d,ET fx sp b,gen n b⟩
end
section
variable {J:Cx} {A:bf} {W:Wd} {s:ah} {n:Nat} {X:List Addr}
theorem uX:∀ {f:Str} {v:ag} (hv:lG v=pure .machine) (h:S7 J f v),pV J f v:=by iterate 4 exact (⟨h,fun _ _=>⟨.machine,.inr (.inl rfl),by rw [hv];exact .now⟩⟩)
theorem pB:∀ {f:Str} (fx:Fx J) (hf:f∈QR),pV J f (.builtin f.toString):=by iterate 3 obtain ⟨mg,mb,h1,h2,_,_,_,_,h3,_⟩:=fx.glob;exact uX rfl ⟨mg,mb,h1,h2,.inr (h3 f hf)⟩
theorem uj:∀ {f:Str} (fx:Fx J) (hf:f∈rz),pV J f (.type f.toString):=by iterate 3 obtain ⟨mg,mb,h1,h2,_,_,_,_,_,h3,_⟩:=fx.glob;exact uX rfl ⟨mg,mb,h1,h2,.inr (h3 f hf)⟩
structure Z7 (J:Cx) (n:Nat):Prop where
 i2d:∀ {ds g d g'},qS ds g=some (d,g')->∃ fv,pV J "_int2digits" fv/\∀ {A W s vs},Qx n A->W.H=g->Qt J W.F W.as ds vs->Qs J W s->Ex J A (call fv vs) [] W s (li J d g')
 d2i:∀ {ds g d g'},qN ds g=some (d,g')->∃ fv,pV J "_digits2int" fv/\∀ {A W s vs},Qx n A->W.H=g->Qt J W.F W.as ds vs->Qs J W s->Ex J A (call fv vs) [] W s (li J d g')
 lexer:∀ {ds g d g'},uZ ds g=some (d,g')->∃ fv,pV J "_law_lexer" fv/\∀ {A W s vs},Qx n A->W.H=g->Qt J W.F W.as ds vs->Qs J W s->Ex J A (call fv vs) [] W s (li J d g')
 Wi:∀ {ds g d g'},rO ds g=some (d,g')->∃ fv,pV J "_netrclex" fv/\∀ {A W s vs},Qx n A->W.H=g->Qt J W.F W.as ds vs->Qs J W s->Ex J A (call fv vs) [] W s (li J d g')
theorem MM:∀ (fx:Fx J) (sp:30<=n->Z7 J n),Sp J n:=by iterate 2
 exact {
  sp:=by
   intro f h ds g d g' e h hn;have sp:=sp hn;unfold special at e;repeat' (split at e)
   ·cases e;rename_i q;rw [eq_of_beq q];exact sp.i2d h
   ·cases e;rename_i q;rw [eq_of_beq q];exact sp.d2i h
   ·cases e;rename_i q;rw [eq_of_beq q];exact sp.lexer h
   ·cases e;rename_i q;rw [eq_of_beq q];exact sp.Wi h
   ·cases e;rename_i q;rw [eq_of_beq q];exact ⟨_,pB fx (by decide),fun hA hg hd hw=>by subst hg;exact yQ h hd hw⟩
   ·cases e;rename_i q;rw [eq_of_beq q];exact ⟨_,uj fx (by decide),fun hA hg hd hw=>by subst hg;exact Ao h hd hw⟩
   ·cases e;rename_i q;rw [eq_of_beq q];exact ⟨_,pB fx (by decide),fun hA hg hd hw=>by subst hg;exact Ev hA.1 h hd hw⟩
   ·cases e;rename_i q;rw [eq_of_beq q];exact ⟨_,uj fx (by decide),fun hA hg hd hw=>by subst hg;exact Cs hA.1 h hd hw⟩
   ·cases e;rename_i q;rw [eq_of_beq q];exact ⟨_,pB fx (by decide),fun hA hg hd hw=>by subst hg;exact wv h hd hw⟩
   ·cases e;rename_i q;rw [eq_of_beq q];exact ⟨_,pB fx (by decide),fun hA hg hd hw=>by subst hg;exact zw h hd hw⟩
   ·cases e}
end
noncomputable def Rk:List Str:=["__getattribute__","__getattr__","__setattr__","lineno","instream","whitespace","pushback","read"]
structure Kl (J:Cx):Prop where
 ex:∃ N mN,(∀ h,H0 J h->ClsAt h J.cls N mN)/\(∀ x∈Rk,mN x=none)/\∀ m fn,vZ (pC P0 "_netrclex") m=some fn->∃ f o,mN m=some (.ref f)/\FnAt J (F0 J) f fn/\F0 J f=some o/\o.cls= .type "function"
section
variable {J:Cx} {A:bf} {W:Wd} {s:ah} {X:List Addr}
theorem pR:∀ {i:Nat} {ln:Int} {src:Option Nat} {pb:List D} {a:Addr} (hw:Qs J W s) (h1:W.H[i]? =some (.lex ln src pb)) (ha:W.as[i]? =some a),∃ dA pA iv t u vs,W.QK[i]? =some [dA,pA]/\dA≠pA/\pb.length<=lim/\So J W.F a dA/\dA≠a/\
   s.heap.Ns1 dA (tO (.int ln t) iv (.str "\n\t\r " u) pA)/\bS s.heap pA vs/\Qt J W.F W.as pb vs.toList/\SrcAt J W.F W.as iv src/\s.heap.Inst a J.cls (tO (.int ln t) iv (.str "\n\t\r " u) pA):=by iterate 8
 obtain ⟨a',fp,hv,Vv,hf,hl,dA,pA,iv,t,u,vs,e1,e4,e5,e6,rfl,e8⟩:=sU (v:= .ref a) hw h1 (by dsimp only [Rd];exact ⟨a,rfl,ha⟩);cases hv;have hn:=(Rv.mp hw.nodup).1 _ (bL hf);have hd:dA≠a:=by rintro rfl;obtain ⟨ob,z1,_⟩:=e1;rw [(hw.RI dA (qP hf (by simp))).1] at z1;cases z1
 obtain ⟨ob,z1,z2,z3,z4⟩:=id e1;exact ⟨dA,pA,iv,t,u,vs,hf,fun q=>by subst q;simp at hn,hl,e1,hd,e4,e5,e6,e8,⟨ob,hw.sub _ _ z1,z2,z4,.inr ⟨dA,z3,hd,e4⟩⟩⟩
theorem rQ:bI (.type "object") (bB "lineno")=pure none:=by iterate 0 rw [bM,bp];rfl'
theorem uC:bI (.type "object") (bB "instream")=pure none:=by iterate 0 rw [bM,bp];rfl'
theorem tm:bI (.type "object") (bB "whitespace")=pure none:=by iterate 0 rw [bM,bp];rfl'
theorem qR:bI (.type "object") (bB "pushback")=pure none:=by iterate 0 rw [bM,bp];rfl'
theorem yI:bI (.type "object") (bB "read")=pure none:=by iterate 0 rw [bM,bp];rfl'
theorem ux:∀ {a:Addr} {mA:Str->Option ag} {name:Str} {v:ag} {x:Bool} {E:ag->ah->Prop} {Q:ag->ah->Prop} (kl:Kl J) (hI:s.heap.Inst a J.cls mA) (hv:mA name=some v) (hh:kB v=pure v) (hn:name∈Rk) (hB:bI (.type "object") name=pure none) (hw:Qs J W s) (hq:Q v {s with toks:=s.toks+1}),aD (aC P0 J.w) A (mP (.ref a) name x) Q E s:=by iterate 15 obtain ⟨N,mN,hc,h0,_⟩:=kl.ex;obtain ⟨hp,g,d,t,os⟩:=s;have X:=hc hp hw.QB;obtain ⟨nm,q,bs,sn,sub,col,dd,k0,k1,k2,k3,k5,hC⟩:=X.obj;exact load_attr hC X.ns (h0 _ (by decide)) (h0 _ hn) hB hI hv hh hq
theorem Jg:∀ {i:Nat} {o:MO} {a:Str} {d:D} {ov:ag} (kl:Kl J) (h1:W.H[i]? =some o) (h2:yg a o=some d) (h3:Rd J W.F W.as (.loc i) ov) (hw:Qs J W s),Ex J A (mP ov a true) [] W s (li J d W.H):=by iterate 10
 obtain ⟨b,rfl,hb⟩:=h3;replace h2:=bi h2;obtain ⟨⟨ln,src,pb⟩,q0,h2⟩:=h2;cases sS q0;obtain ⟨dA,pA,iv,t,u,vs,hf,_,_,_,_,_,_,_,_,hI⟩:=pR hw h1 hb;split at h2
 ·rename_i q;cases h2;rw [eq_of_beq q];exact ux kl hI (by rfl) rfl (by decide) rQ hw ⟨W,Qp.toks hw,rfl,t,rfl⟩
 ·split at h2
  ·rename_i q;cases h2;rw [eq_of_beq q];exact ux kl hI (by rfl) rfl (by decide) tm hw ⟨W,Qp.toks hw,rfl,by decide,u,by rfl⟩
  ·cases h2
end
section
variable {J:Cx} {A:bf} {W W0:Wd} {s s0:ah} {X:List Addr} {sc:aX} {st:St} {env:Env} {ow:List Addr} {B:Bs}
theorem Ft:∀ {fn:Fn} {a:Addr} {M:Model} (h4:FnAt J (F0 J) a fn),∀ h,H0 J h->∃ k,(k=mZ\/k=mr\/k=lC)/\jI M h (lG (.ref a)) k:=by iterate 4
 exact (fun h hl=>by
 obtain ⟨o,fd,e,hd,_⟩:=h4.obj;have:=hl a o e;obtain ⟨oc,od,dt,sl⟩:=o;dsimp only at hd;subst hd;exact cX h ⟨oc,od,fd,sl,this⟩)
theorem EP:∀ {m:Str} {fn:Fn} {a:Addr} {mA:Str->Option ag} {o:Expr} {apos pos:Pos} {k:Nat} {trees:List (Bool×Sem ag)} {Q:ag->ah->Prop} {E:ag->ah->Prop} (kl:Kl J) (hf:vZ (pC P0 "_netrclex") m=some fn) (hI:s.heap.Inst a J.cls mA) (hm:mA m=none) (hB:bI (.type "object") m=pure none) (hp:trees.any (·.1)=false) (hk:k<30) (hl:(apos.endLine==pos.line)=true) (hw:Qs J W s) (h:∀ f,FnAt J (F0 J) f fn->aD (aC P0 J.w) A (eM trees) (fun vs s'=>H0 J s'.heap/\aD (aC P0 J.w) A (call (.ref f) (.ref a::vs)) Q E s') E s),aD (aC P0 J.w) A (eG o m apos pos env (.ref a) k trees []) Q E s:=by iterate 21
 obtain ⟨N,mN,hc,h0,UG⟩:=kl.ex;obtain ⟨f,ob,Yy,QE,ho,Sr⟩:=UG m fn hf;have YO:iL k trees []=true:=by unfold iL;simp only [nK,ml,if_true,ib,ai,decide_eq_true_eq,and_true];exact ⟨qK hp,hk⟩
 have Rz:fD true o env apos pos=pure pos:=by unfold fD;simp [hl]
 unfold eG;rw [YO];have Ua:=hw.QB;have hh:=h f QE;obtain ⟨Wo,g,d,t,os⟩:=s;have X:=hc Wo Ua;obtain ⟨nm,q,bs,sn,sub,col,dd,k0,k1,k2,k3,k5,hC⟩:=X.obj;refine ae (bu (method_of hC X.ns (h0 _ (by decide)) (h0 _ (by decide)) Yy (Ua _ _ ho) Sr hB hI hm ?_));refine ae (gb Rz ?_);exact c9 (by simp [hp]) (Ft QE) (pE hp hh)
theorem ui:∀ {x name:Str} {xp ap:Pos} {a:Addr} {mA:Str->Option ag} {v:ag} {Q:ag->ah->Prop} {E:ag->ah->Prop} (kl:Kl J) (hv:RG s.heap env x (.ref a)) (hk:env.scope.kind= .function) (hx:mt x=true) (hI:s.heap.Inst a J.cls mA) (hm:mA name=some v) (hh:kB v=pure v) (hn:name∈Rk) (hB:bI (.type "object") name=pure none) (hw:Qs J W s) (hq:Q v {s with toks:=s.toks+1}),aD (aC P0 J.w) A (eval (.Attribute (.Name x xp) name ap) env) Q E s:=by iterate 20 rw [jk,p0];refine ae (bq (cr hv hk hx ?_) (oP hx).1);exact ae (bt (ae (bu (ux kl hI hm hh hn hB hw (ae (ay (ay hq)))))))
end
section
variable {J:Cx} {A:bf} {W W0:Wd} {s s0:ah} {X:List Addr}
theorem G6:∀ {i:Nat} {ln:Int} {src:Option Nat} {pb pb':List D} {a dA pA:Addr} {SX:Array ag} {s':ah} (hw:Qs J W s) (h1:W.H[i]? =some (.lex ln src pb)) (ha:W.as[i]? =some a) (hp:W.QK[i]? =some [dA,pA]) (hl:pb'.length<=lim) (hs:vU J s pA SX s') (hr:Qt J W.F W.as pb' SX.toList),Qp J X W s ⟨W.F,W.H.set i (.lex ln src pb'),W.as,W.QK.set i [dA,pA]⟩ s':=by iterate 17
 obtain ⟨dA',pA',iv,t,u,vs,hf,Ue,UR,e1,hd,e4,e5,e6,e8,_⟩:=pR hw h1 ha;rw [hf] at hp;cases hp;obtain ⟨h',tk,rfl,sb,p'⟩:=hs;have kk:∀ b o,b≠pA->s.heap.get? b=some o->h'.get? b=some o:=fun b o hb e=>(sb.2 b hb).trans e;refine Qp.VA (tk:=tk) (mo':= .lex ln src pb') (h':=h') hw ha hf (fun b o hb e=>kk b o (fun q=>hb (by rw [q];simp)) e) (fun b hb=>?_) ?_ (fun b hb=> .inl hb) (by simpa using Ue)
 ·by_cases q:b=pA
  ·subst q;obtain ⟨o,_,e,_⟩:=p';exact ⟨o,e⟩
  ·obtain ⟨o,e⟩:=(hw.RI b (qP hf hb)).2.2;exact ⟨o,kk b o q e⟩
 ·exact ⟨hl,dA,pA,iv,t,u,SX,e1,Ns1.keep e4 fun o=>kk _ _ Ue,p',hr,rfl,e8⟩
theorem LN:∀ {i:Nat} {ln ln':Int} {src:Option Nat} {pb:List D} {a:Addr} {h':Heap} {tk:Nat} {t t':Tok} {iv ws:ag} {dA pA:Addr} (hw:Qs J W s) (h1:W.H[i]? =some (.lex ln src pb)) (ha:W.as[i]? =some a) (hf:W.QK[i]? =some [dA,pA]) (hm:s.heap.Ns1 dA (tO (.int ln t) iv ws pA)) (hI:h'.Inst a J.cls fun y=>if y="lineno" then some (.int ln' t') else tO (.int ln t) iv ws pA y) (hk:∀ (b:Addr) (o:Obj),b≠a->(∀ (SY:Obj) (dx:Addr),s.heap.get? a=some SY->SY.dict=some dx->b≠dx)->s.heap.get? b=some o->h'.get? b=some o) (ho:∀ SY:Obj,s.heap.get? a=some SY->∃ U1,h'.get? a=some U1/\U1.cls=SY.cls/\U1.data=SY.data/\U1.slots=SY.slots/\∀ dx:Addr,SY.dict=some dx->U1.dict=some dx),Qp J X W s ⟨W.F,W.H.set i (.lex ln' src pb),W.as,W.QK.set i [dA,pA]⟩ {s with heap:=h',toks:=tk}:=by iterate 22
 obtain ⟨dA',pA',iv',t2,u,vs,Xm,Ue,UR,e1,hd,e4,e5,e6,e8,_⟩:=pR hw h1 ha;rw [hf] at Xm;cases Xm;obtain ⟨ob,f1,f2,f3,f4⟩:=id e1;have e1s:=hw.sub _ _ f1;obtain ⟨o1,q1,q2,q3,q4,q5⟩:=ho _ e1s;replace q5:=q5 dA f3;have Xy:h'.get? a=some ob:=by rw [q1];obtain ⟨c0,d0,Z3,s0⟩:=o1;obtain ⟨c1,d1,dt1,s1⟩:=ob;simp only at q2 q3 q4 q5 f3;subst q2;subst q3;subst q4;subst q5;subst f3;rfl
 have kk:∀ b o,b≠dA->s.heap.get? b=some o->h'.get? b=some o:=fun b o hb e=>by
  by_cases q:b=a
  ·subst q;rw [e1s] at e;cases e;exact Xy
  ·exact hk b o q (fun SY dx z1 z2=>by rw [e1s] at z1;cases z1;rw [f3] at z2;cases z2;exact hb) e
 have same:∀ y,tO (.int ln t) iv ws pA y=tO (.int ln t2) iv' (.str "\n\t\r " u) pA y:=by obtain ⟨o,es,ep,z1,z2,z3,z4,z5⟩:=hm;obtain ⟨o',es',ep',y1,y2,y3,y4,y5⟩:=e4;rw [z1] at y1;cases y1;rw [z2] at y2;cases y2;exact fun y=>(z5 y).symm.trans (y5 y)
 have hiv:iv=iv':=by have:=same "instream";exact bh this
 have WN:ws= .str "\n\t\r " u:=by have:=same "whitespace";exact bh this
 subst hiv;subst WN;obtain ⟨o2,y1,y2,y3,y4⟩:=hI;rw [Xy] at y1;cases y1;rcases y4 with ⟨z,_⟩ | ⟨d,z1,z2,z3⟩
 ·rw [f3] at z;cases z
 ·rw [f3] at z1;cases z1;have abj:(fun y:Str=>if y="lineno" then some (.int ln' t') else tO (.int ln t) iv (.str "\n\t\r " u) pA y)=tO (.int ln' t') iv (.str "\n\t\r " u) pA:=by
   funext y;unfold tO;by_cases q:y="lineno"
   ·rw [if_pos q,if_pos q]
   ·rw [if_neg q,if_neg q,if_neg q]
  rw [abj] at z3;refine Qp.VA (tk:=tk) (mo':= .lex ln' src pb) (h':=h') hw ha hf (fun b o hb e=>kk b o (fun q=>hb (by rw [q];simp)) e) (fun b hb=>?_) ?_ (fun b hb=> .inl hb) (by simpa using Ue)
  ·by_cases q:b=dA
   ·subst q;obtain ⟨o,_,_,e,_⟩:=z3;exact ⟨o,e⟩
   ·obtain ⟨o,e⟩:=(hw.RI b (qP hf hb)).2.2;exact ⟨o,kk b o q e⟩
  ·exact ⟨UR,dA,pA,iv,t',u,vs,e1,z3,bS.keep e5 fun o=>kk _ _ (dz Ue),e6,rfl,e8⟩
theorem K5:∀ {j:Nat} {cs cs':List Nat} {a:Addr} {XK:Array ag} {s':ah} (hw:Qs J W s) (h1:W.H[j]? =some (.sg cs)) (ha:W.as[j]? =some a) (hl:cs'.length<=lim) (hs:vU J s a XK s') (hr:yk cs' XK.toList),Qp J X W s ⟨W.F,W.H.set j (.sg cs'),W.as,W.QK.set j [a]⟩ s':=by iterate 12 obtain ⟨a',fp,hv,Vv,hf,hc,rfl,ss,p,TF⟩:=sU (v:= .ref a) hw h1 (by dsimp only [Rd];exact ⟨a,rfl,ha⟩);cases hv;obtain ⟨h',tk,rfl,sb,p'⟩:=hs;refine Qp.VA (tk:=tk) (mo':= .sg cs') (h':=h') hw ha hf (fun b o hb e=>(sb.2 b (fun q=>hb (by rw [q];simp))).trans e) (fun b hb=>?_) ⟨hl,rfl,XK,p',hr⟩ (fun b hb=> .inl hb) (by simp);simp at hb;subst hb;obtain ⟨o,_,e,_⟩:=p';exact ⟨o,e⟩
end
noncomputable def Ta:Fn:=⟨["self","token"],(.mk .function [("self",.local),("token",.local)] false false []),
 [(.Expr (.Call (.Attribute (.Attribute (.Name "self" ⟨162,8,162,12⟩) "pushback" ⟨162,8,162,21⟩) "append" ⟨162,8,162,28⟩) [(.Name "token" ⟨162,29,162,34⟩)] [] ⟨162,8,162,35⟩) ⟨162,8,162,35⟩)]⟩
theorem EH:vZ (pC P0 "_netrclex") "push_token" =some Ta:=by iterate 0 rfl'
section
variable {J:Cx} {A:bf} {W W0:Wd} {s s0:ah} {X:List Addr} {sc:aX} {st:St} {env:Env} {ow:List Addr} {B:Bs}
theorem HR:∀ {f:Addr} {i:Nat} {ln:Int} {src:Option Nat} {l:List D} {d:D} {a:Addr} {v:ag} (fx:Fx J) (kl:Kl J) (QE:FnAt J (F0 J) f Ta) (h1:W.H[i]? =some (.lex ln src l)) (hl:l.length<lim) (ha:W.as[i]? =some a) (rv:Rd J W.F W.as d v) (hw:Qs J W s) (hA:Qx 1 A),Ex J A (call (.ref f) [.ref a,v]) [] W s (li J .none (W.H.set i (.lex ln src (l++[d])))):=by iterate 17
 have R0:Rd J W.F W.as (.loc i) (.ref a):=by dsimp only [Rd];exact ⟨a,rfl,ha⟩
 refine sG (ds:=[.loc i,d]) fx QE rfl (by have:=hA.2.1;omega) (by dsimp only [Qt];exact ⟨_,_,rfl,R0,_,_,rfl,rv,rfl⟩) hw fun env Ql R=>?_;have RT:=R.ok;obtain ⟨dA,pA,iv,t,u,vs,hf,Ue,UR,e1,hd,e4,e5,e6,e8,hI⟩:=pR RT h1 ha;obtain ⟨v1,Sj,r1⟩:=R.R.vars "self" (.loc i) (by rfl');have Ul:v1= .ref a:=by dsimp only [Rd] at r1;obtain ⟨a',rfl,q⟩:=r1;rw [ha] at q;cases q;rfl
 subst Ul;show aD _ _ (gg Ta.body env) _ _ _;unfold Ta;refine ao (dE ?_ (rC R) rfl);refine cA rfl rfl rfl rfl (ui kl Sj R.R.kind (by decide) hI (by rfl) rfl (by decide) qR RT ?_);obtain ⟨o,n,eo,co,dO,dt⟩:=id e5;refine ⟨"list","list.append",cI,fG,fE,⟨o,eo,co⟩,fun b q=>by cases q;exact ⟨o,eo,dO⟩,?_⟩;refine ii rfl ?_;have R2:=R.expr (Qp.toks (X:=[]) (tk:=Ql.toks+1) RT);obtain ⟨v2,ZD,r2⟩:=R2.R.vars "token" d (by rfl');refine aR (bq (cr ZD R2.R.kind (by decide) ?_) (by decide)) rfl;refine aZ ?_;have Ru:vs.size=l.length:=by rw [<-e6.length,bA]
 refine af (tZ (vs:=vs) (x:=v2) e5 (by omega)) (fun v s2 z0=>?_) fun _ _ f=>f;obtain ⟨hv,hs⟩:=z0;refine aW ?_;exact ⟨_,R2.tr.Qn (G6 (X:=[]) (pb':=l++[d]) R2.ok h1 ha hf (by simp;omega) hs (by rw [gh];exact e6.append (Qt.one r2))),rfl,by dsimp only [Rd]⟩
end
end MP.Lake
namespace MP.Lake
open PySem PyProof.Rows
open AutoSeq1 (wpAny_loadPart')
theorem E1:∀ (l:Addr) (x0:ag) (items:Array ag) (n:Nat) (u:Tok) (dd:Option Addr) (sl:Array (Option ag)) (he:¬ items.isEmpty=true) (hx:((mh 0 items.size).bind fun k=>items[k]?.map (k,·))=some (0,x0)) (VE:items.size<=dw),Meets (ie.«list.pop» ⟨[.ref l,.int 0 u],[]⟩) (fun _ R s=>s.heap.get? l=some {cls:= .type "list",dict:=dd,data:= .seq items n,slots:=sl}/\R (.ok (.ret x0)) {s with heap:=s.heap.update l (iS fun x=>x.eraseIdxIfInBounds 0),toks:=s.toks}):=by iterate 10
 exact (.of_wp fun prog w A R s h=>by
  obtain ⟨hp,g,d,tk,os⟩:=s;obtain ⟨hl,h⟩:=h;have f1:=iG;have Xr:¬ (!Builtin.List.listFitsIndex 0)=true:=by decide
  have VP:(items.eraseIdxIfInBounds 0).size<=dw+1:=by
   unfold j3;split
   ·rw [Array.size_eraseIdx];omega
   ·omega
  wp_walk using (iu hl rfl (hz:=VE) (_hz':=VP)),dW hl
  rw [hx];wp_walk using (iu hl rfl (hz:=VE) (_hz':=VP)),dW hl;exact ⟨_,rfl,h⟩)
section
variable {J:Cx} {A:bf} {W W0:Wd} {s s0:ah} {X:List Addr} {env:Env}
theorem Ax:∀ {a:Addr} {vs:Array ag} {x:ag} {r:List ag} {u:Tok} {E:ag->ah->Prop} (p:bS s.heap a vs) (hv:vs.toList=x::r) (Ru:vs.size<=lim),aD (aC P0 J.w) A (call (.builtin "list.pop") [.ref a,.int 0 u]) (fun v s'=>v=x/\vU J s a r.toArray s') E s:=by iterate 9
 obtain ⟨o,n,e,c,d,dt⟩:=id p;obtain ⟨cls,QH,data,sl⟩:=o;simp only at c d dt;subst c;subst d;subst dt;have:=pt;obtain ⟨l⟩:=vs;simp only at hv;subst hv;refine iC gE ⟨_,e,rfl⟩ PySem.F.entry_list_pop (PySem.F.args_list_pop_2 _ _) (E1 a x _ n u none sl (by simp) ?_ (by omega)) ⟨e,?_⟩
 ·simp [mh]
 ·refine ⟨rfl,_,_,rfl,eJ ..,?_⟩;have:=ut (f:=fun x=>x.eraseIdxIfInBounds 0) e rfl rfl rfl;simpa [j3] using this
theorem AY:∀ {k:Nat} {trees:List (Bool×Sem ag)} (hp:trees.any (·.1)=false) (hk:k<30),iL k trees []=true:=by iterate 4 unfold iL;simp only [nK,ml,if_true,ib,ai,decide_eq_true_eq,and_true];exact ⟨qK hp,hk⟩
theorem yG:∀ {m:Str} {id:String} {a:Addr} {o:Obj} {oe:Expr} {apos pos:Pos} {k:Nat} {trees:List (Bool×Sem ag)} {Q:ag->ah->Prop} {E:ag->ah->Prop} (slot:Slot "list" m id) (hty:typeOf (.builtin id)=pure (.type "method_descriptor")) (e:s.heap.get? a=some o) (c:o.cls= .type "list") (d:o.dict=none) (hp:trees.any (·.1)=false) (hk:k<30) (hl:(apos.endLine==pos.line)=true) (h:aD (aC P0 J.w) A (eM trees) (fun vs s'=>aD (aC P0 J.w) A (call (.builtin id) (.ref a::vs)) Q E s') E s),aD (aC P0 J.w) A (eG oe m apos pos env (.ref a) k trees []) Q E s:=by iterate 20
 have Rz:fD true oe env apos pos=pure pos:=by unfold fD;simp [hl]
 unfold eG;rw [AY hp hk];refine ae (bu (getMethod_builtin (T:="list") ⟨o,e,c⟩ cI slot hty (fun b q=>by cases q;exact ⟨o,e,d⟩) ?_));exact ae (gb Rz (ii hp h))
theorem EF:∀ {j:Nat} {ds:List D} {d:D} {g1 g2:G} (h:methD "pop" (.loc j) ds g1=some (d,g2)),ds=[.int 0]/\∃ c r,g1[j]? =some (.sg (c::r))/\d= .str [c]/\g2=g1.set j (.sg r):=by iterate 6
 cases ds with
 | nil=>replace h:vq "pop" g1 j=some (d,g2):=h;unfold vq at h;rw [if_neg (by decide),if_neg (by decide)] at h;cases h
 | cons d1 r=>
  replace h:=bi h;obtain ⟨_,h1,h⟩:=h;cases oY h1;rw [if_neg (by decide),if_pos (by decide)] at h;replace h:=bi h;obtain ⟨k,h2,h⟩:=h;cases be h2;split at h
  ·rename_i hk;cases hk;replace h:=vK h;obtain ⟨o,e,cs,h3,⟨c,r⟩,h4,h⟩:=h;cases h;cases sJ h3;cases qL h4;exact ⟨rfl,c,r,e,rfl,rfl⟩
  ·cases h
theorem JZ:∀ {g g1:G} {j:Nat} {cs:List Nat} (hk:g[j]?.map kindOf=g1[j]?.map kindOf) (e:g1[j]? =some (.sg cs)),∃ cs',g[j]? =some (.sg cs'):=by iterate 6
 rw [e] at hk;cases q:g[j]? with
 | none=>rw [q] at hk;cases hk
 | some mo=>cases mo<;>rw [q] at hk<;>first | exact ⟨_,rfl⟩ | cases (show (1:Nat)=2 from bh hk) | cases (show (3:Nat)=2 from bh hk) | cases (show (2:Nat)=1 from bh hk) | cases (show (3:Nat)=1 from bh hk) | cases (show (1:Nat)=3 from bh hk) | cases (show (2:Nat)=3 from bh hk)
theorem GQ:∀ {g g1:G} {j:Nat} {ln:Int} {src:Option Nat} {pb:List D} (hk:g[j]?.map kindOf=g1[j]?.map kindOf) (e:g1[j]? =some (.lex ln src pb)),∃ ln src pb,g[j]? =some (.lex ln src pb):=by iterate 8
 rw [e] at hk;cases q:g[j]? with
 | none=>rw [q] at hk;cases hk
 | some mo=>cases mo<;>rw [q] at hk<;>first | exact ⟨_,_,_,rfl⟩ | cases (show (1:Nat)=2 from bh hk) | cases (show (3:Nat)=2 from bh hk) | cases (show (2:Nat)=1 from bh hk) | cases (show (3:Nat)=1 from bh hk) | cases (show (1:Nat)=3 from bh hk) | cases (show (2:Nat)=3 from bh hk)
theorem Ge:∀ {j:Nat} {ds:List D} {d:D} {g1 g2:G} {o:Expr} {apos pos:Pos} {k:Nat} {trees:List (Bool×Sem ag)} {ov:ag} (h:methD "pop" (.loc j) ds g1=some (d,g2)) (Vk:W.H[j]?.map kindOf=g1[j]?.map kindOf) (r:Rd J W.F W.as (.loc j) ov) (hw:Qs J W s) (hp:trees.any (·.1)=false) (hk:k<30) (hl:(apos.endLine==pos.line)=true) (ht:Ex J A (eM trees) [] W s (fun vs W' _=>W'.H=g1/\Qt J W'.F W'.as ds vs)),Ex J A (eG o "pop" apos pos env ov k trees []) [] W s (li J d g2):=by iterate 19
 obtain ⟨rfl,c,rs,e1,rfl,rfl⟩:=EF h;obtain ⟨cs',e0⟩:=JZ Vk e1;obtain ⟨a,fp,rfl,ha,hf,hc,rfl,ss,⟨ob,n,p1,p2,p3,p4⟩,hs⟩:=sU hw e0 r;refine yG gE j7 p1 p2 p3 hp hk hl (Ex.into ht fun vs W1 s1 k1 z0=>?_);obtain ⟨hg,rv⟩:=z0;obtain ⟨v,rfl,r1⟩:=qz rv;obtain ⟨u,rfl⟩:=r1;subst hg;have ha1:=k1.as _ _ ha;obtain ⟨a',fp',hv,Vv,Xm,hc',rfl,XK,p',TF⟩:=sU (v:= .ref a) k1.ok e1 ⟨a,rfl,ha1⟩;cases hv;obtain ⟨v,r',q1,⟨t,rfl⟩,q2⟩:=TF;have Ru:XK.size=(c::rs).length:=by have:=(zh (J:=J) (F:=W1.F) (as:=W1.as) (cs:=c::rs) (vs:=XK.toList) ⟨_,r',q1,⟨t,rfl⟩,q2⟩).length;simpa using this
 refine af (Ax p' q1 (by rw [Ru];exact hc')) (fun v s2 z1=>?_) fun _ _ f=>f;obtain ⟨hv,hs2⟩:=z1;subst hv;refine ⟨_,k1.Qn (K5 (X:=[]) (cs':=rs) k1.ok e1 ha1 (by simp at hc';omega) hs2 (by simpa using q2)),rfl,by simp [lim],t,rfl⟩
end
end MP.Lake
namespace MP.Lake
open PySem PyProof.Rows
noncomputable def vX:dD:= .mk [] [(.mk "size" none ⟨248,25,248,29⟩)] none [] [] none []
noncomputable def o6:aX:=(.mk .function [("size",.local),("signs",.free)] false false [("fast",(.str "size")),("fast",(.str "one")),("fast",(.str "signs"))])
noncomputable def uG:Pos:=⟨248,18,248,78⟩
noncomputable def uP:Expr:=(.Subscript (.Name "signs" ⟨248,64,248,69⟩) (.Slice none (some (.Name "size" ⟨248,71,248,75⟩)) none ⟨248,70,248,75⟩) ⟨248,64,248,76⟩)
noncomputable def u0:Expr:=(.Call (.Attribute (.Constant (.str "") 0 ⟨248,31,248,33⟩) "join" ⟨248,31,248,38⟩) [(.ListComp (.Call (.Attribute (.Name "signs" ⟨248,40,248,45⟩) "pop" ⟨248,40,248,49⟩) [(.Constant (.int 0) 0 ⟨248,50,248,51⟩)] [] ⟨248,40,248,52⟩) [(.mk (.Name "one" ⟨248,57,248,60⟩) uP [] 0)] (.mk .function [(".0",.local),("one",.local),("signs",.free)] false false []) ⟨248,39,248,77⟩)] [] ⟨248,31,248,78⟩)
theorem LX:((pd P0 "_law_lexer").bind fun f=>Kh f.body)=some (vX,u0,o6,uG):=by iterate 0 rfl'
noncomputable def tu (j:Nat):St:=⟨[("size",.int 1)],[("signs",.loc j)],none⟩
theorem Ig:∀ {j:Nat} {g:G} {cs:List Nat} (e:g[j]? =some (.sg cs)),ceE P0 6 o6 (tu j) uP g=some (.lst (slice (cs.map fun c=> .str [c]) none (some 1)),g):=by iterate 4
 have:ceE P0 6 o6 (tu j) uP g=(xz g (.loc j) none (some 1)).bind fun d=>some (d,g):=by rfl'
 rw [this];show ((g[j]?.bind fun o=>(AO o).bind fun cs=>some (D.lst (slice (cs.map fun c=> .str [c]) none (some 1))))).bind _=_;rw [e];rfl
noncomputable def tU:aX:=(.mk .function [(".0",.local),("one",.local),("signs",.free)] false false [])
noncomputable def wq:Expr:=(.Call (.Attribute (.Name "signs" ⟨248,40,248,45⟩) "pop" ⟨248,40,248,49⟩) [(.Constant (.int 0) 0 ⟨248,50,248,51⟩)] [] ⟨248,40,248,52⟩)
noncomputable def NZ (j:Nat) (ρ:Qr):St:=((tu j).comp o6 tU).withRho ρ
noncomputable def Bt:Expr:= .Name "one" ⟨248,57,248,60⟩
noncomputable def uq (j:Nat):D->List D->G->Option (List D×G×Option D):=O4 (fs P0 6) o6 (tu j) Bt wq [] tU
theorem JI:∀ {j:Nat} {g:G} {ρ:Qr},ceE P0 6 tU (NZ j ρ) wq g=(re (qo g (.loc j)==qo g (.loc j))).bind fun _=>Lm g j:=by iterate 3 rfl'
noncomputable def ya (g:G) (j:Nat):List Nat->G
| []=>g
| _::r=>g.set j (.sg r)
theorem GY:∀ {j:Nat} {g:G} {cs:List Nat} (e:g[j]? =some (.sg cs)),ceE P0 7 o6 (tu j) (.ListComp wq [(.mk (.Name "one" ⟨248,57,248,60⟩) uP [] 0)] tU ⟨248,39,248,77⟩) g=some (.lst ((cs.take 1).map fun c=> .str [c]),ya g j cs):=by iterate 4
 show ((re (yE o6 tU&&tM tU Bt)).bind fun _=>(ceE P0 6 o6 (tu j) uP g).bind fun x=>(itemsOf x.1).bind fun ds=>(iterLoop (uq j) ds [] x.2).bind fun y=>(EX y.1).bind fun d=>some (d,y.2.1))=_;rw [show re (yE o6 tU&&tM tU Bt)=some () from by rfl',Ig e];cases cs with
 | nil=>rfl
 | cons c r=>
  have h1:uq j (.str [c]) [] g=some ([.str [c]],g.set j (.sg r),none):=by
   have:uq j (.str [c]) [] g=(ceE P0 6 tU (NZ j [("one",.str [c])]) wq g).bind fun p=>some ([p.1],p.2,none):=by rfl'
   rw [this,JI];simp [re,Lm,e,show ∀ l,AO (.sg l)=some l from fun _=>rfl,show ∀ (a:Nat) l,vO (a::l)=some (a,l) from fun _ _=>rfl]
  show ((iterLoop (uq j) [.str [c]] [] g).bind fun x=>(EX x.1).bind fun d=>some (d,x.2.1))=_;have h2:iterLoop (uq j) [.str [c]] [] g=some ([.str [c]],g.set j (.sg r),none):=by show (uq j (.str [c]) [] g).bind _=_;rw [h1];rfl
  rw [h2];rfl
theorem Lg:∀ {j:Nat} {g:G} {cs:List Nat} (e:g[j]? =some (.sg cs)),ceE P0 9 o6 (tu j) u0 g=some (.str (cs.take 1),ya g j cs):=by iterate 4
 have h1:ceEs P0 8 o6 (tu j) [.ListComp wq [(.mk (.Name "one" ⟨248,57,248,60⟩) uP [] 0)] tU ⟨248,39,248,77⟩] g=some ([.lst ((cs.take 1).map fun c=> .str [c])],ya g j cs):=by show ((ceE P0 7 o6 (tu j) _ g).bind fun d=>(ceEs P0 7 o6 (tu j) [] d.2).bind fun ds=>some (d.1::ds.1,ds.2))=_;rw [GY e];rfl
 show (ceEs P0 8 o6 (tu j) [.ListComp wq [(.mk (.Name "one" ⟨248,57,248,60⟩) uP [] 0)] tU ⟨248,39,248,77⟩] g).bind (fun p=>methD "join" (.str []) p.1 p.2)=_;rw [h1];cases cs with | nil=>rfl | cons c r=>rfl
theorem B7:∀ {x:Str} {v:ag},∀ {ps:List Str} {vs:List ag} {i:Nat},db ps=true->ps[i]? =some x->vs[i]? =some v->(ps.zip vs).reverse.lookup x=some v:=by iterate 2
 intro ps;induction ps with
 | nil=>intro vs i _ h _;simp at h
 | cons p ps Qo=>
  intro vs i hd h1 h2;cases vs with
  | nil=>simp at h2
  | cons u vs=>
   dsimp only [db] at hd;rw [ai] at hd;rw [fH,gm,List.lookup_append];cases i with
   | zero=>
    simp at h1 h2;subst h1;subst h2;have:(ps.zip vs).reverse.lookup p=none:=by
     rw [gA];intro q hq;have hq:=(hE (dm.mp hq)).1;have h3:p∉ps:=by simpa using hd.1
     simp only [bne_iff_ne,ne_eq,beq_eq_false_iff_ne] at *;exact fun z=>h3 (z▸hq)
    rw [this];simp
   | succ i=>rw [Qo hd.2 (by simpa using h1) (by simpa using h2)];rfl
section
variable {J:Cx} {A:bf} {W W0:Wd} {s s0:ah} {X:List Addr} {sc:aX}
theorem AU:∀ {h:Heap} {L:Addr} {cl:List (Str×Addr)} {qual:Str} {fn:Option Addr} {cd:ag} {ps:List Str} {ds:List D} {vs:List ag} {Sh up:Qr} (hk:sc.kind= .function) (hd:db ps=true) (Sf:h.Ns L fun x=>(ps.zip vs).reverse.lookup x) (hr:Qt J W.F W.as ds vs) (UP:∀ x d,Sh.lookup x=some d->sc.names.lookup x=some .local->(ps.zip ds).lookup x=some d) (RF:∀ x:Str×eN,x∈sc.names->x.2≠ .cell) (Yh:∀ x d,up.lookup x=some d->∃ c v,cl.lookup x=some c/\h.IsCell c (some v)/\Rd J W.F W.as d v) (Vs:∀ x,sc.names.lookup x=some .free->∃ c v,cl.lookup x=some c/\h.IsCell c v) (Xh:∀ x y c,cl.lookup x=some c->cl.lookup y=some c->x=y) (hL:Apart J W h L) (Sr:∀ p∈cl,p.2≠L/\p.2∉J.T/\p.2∉W.QK.flatten/\∃ o,h.get? p.2=some o) (S6:∀ x c,cl.lookup x=some c->sc.names.lookup x=some .free),Qq J W h sc ⟨Sh,up,none⟩ (ng sc L bC cl qual fn cd none bU) []:=by iterate 23
 exact {
  kind:=hk
  glob:=rfl
  bi:=rfl
  kd:=fun x k e=> .inl e
  ns:=⟨_,Sf⟩
  vars:=fun x d e=>by
   rcases zK e with ⟨q,e⟩ | ⟨q,e⟩ | ⟨q,e⟩
   ·obtain ⟨c,v,h1,h2,h3⟩:=Yh x d e;exact ⟨v,.inr ⟨.inr q,c,h1,h2⟩,h3⟩
   ·obtain ⟨i,h1,h2⟩:=uQ (UP x d e q);obtain ⟨v,h3,h4⟩:=hr.get h2;exact ⟨v,.inl ⟨q,_,Sf,B7 hd h1 h3⟩,h4⟩
   ·exact absurd rfl (RF _ (al q))
  cells:=fun x e=>by
   rcases CA e with q | q
   ·exact Vs x q
   ·exact absurd rfl (RF _ (al q))
  inj:=Xh
  Rx:=fun x c e=>(Sr _ (al e)).1
  apart:=fun a ha=>by
   rw [aS] at ha;rcases aq.mp ha with rfl | ha
   ·exact ⟨.inl hL.1,hL.2⟩
   ·have Vv:=ha;obtain ⟨p,hp,rfl⟩:=aH.mp ha;have z:=Sr p hp;exact ⟨.inr ⟨av _ Vv,z.1,fun x e=>S6 x _ e⟩,z.2⟩
  own:=fun x o e=>by cases e
  Rj:=fun x o e=>by cases e}
theorem IsCell.keep:∀ {h h':Heap} {c:Addr} {v:Option ag} (x:h.IsCell c v) (k:∀ o,h.get? c=some o->h'.get? c=some o),h'.IsCell c v:=by iterate 6 obtain ⟨o,e,d⟩:=x;exact ⟨o,k _ e,d⟩
theorem Gf:∀ {fn c sA:Addr} {o:Obj} {j:Nat} {cs:List Nat} {t:Tok} (fx:Fx J) (Qw:Ok J 9) (hl:TQ W.F fn c) (hc:W.F c=some o) (hd:o.data= .cell (some (.ref sA))) (ha:W.as[j]? =some sA) (e:W.H[j]? =some (.sg cs)) (hw:Qs J W s) (hA:Qx 10 A),Ex J A (call (.ref fn) [.int 1 t]) [] W s (li J (.str (cs.take 1)) (ya W.H j cs)):=by iterate 16
 obtain ⟨X3,a,b,sc,pos,ob,pm,cd,ct,c',oc,vs,t',h1,h2,h3,h4,h5,h6,h7,h8⟩:=hl;have hq:some (a,b,sc,pos)=some (vX,u0,o6,uG):=by rw [<-LX,h1,bz,h2]
 cases hq;refine eV (PySem.W.kla_callFunE (by have:=hA.2.1;omega) (hw.sub _ _ h3) h4 rfl rfl rfl ⟨c',oc,vs,t',h5,hw.sub _ _ h6,h7,h8⟩ ?_);have hb:iD (KJ vX u0 o6 c pm cd ct) ⟨[.int 1 t],[]⟩=pure (([("size" :Str)]).zip [dZ 1 t]):=by rfl'
 rw [hb];refine ay (fA (scope:=o6) (by decide) (fun x hx=>by simp at hx;subst hx;rfl) (fun Q5 Sf WX=>?_) rfl);have hx:fw s.heap.objs.size s.heap Q5:=fun b o hb e=>WX.extBut b o hb (aF _ e);have t1:=hw.SP (tk:=s.toks+(([("size" :Str)]).zip [dZ 1 t]).length) hx;have n0:=hw.QQ (bv s.heap);refine ⟨?_,PySem.W.kla_codeExpr ?_⟩
 ·obtain ⟨mc,q1,q2⟩:=fx.SI;exact ⟨mc,q1.ns t1.ok.QB,q2⟩
 have RF:Q5.IsCell c (some (.ref sA)):=⟨o,t1.ok.sub _ _ hc,hd⟩
 have R:Qq J W Q5 o6 (tu j) (ng o6 s.heap.objs.size bC [("signs",c)] ("_law_lexer.<locals>.<lambda>" ++".<locals>.") (some fn) cd none bU) []:=by
  refine AU (ps:=[("size" :Str)]) (ds:=[.int 1]) (vs:=[.int 1 t]) rfl (by decide) Sf (by dsimp only [Qt,Rd];exact ⟨_,_,rfl,⟨t,rfl⟩,rfl⟩) (fun x d q _=>q) (by decide) (fun x d q=>?_) (fun x q=>?_) (fun x y c1 q1 q2=>?_) ⟨n0.1,n0.2.1,n0.2.2,(by obtain ⟨o,_,_,e,_⟩:=Sf;exact ⟨o,e⟩)⟩ (fun p hp=>?_) (fun x c1 q=>?_)
  ·have z:=al q;simp at z;obtain ⟨rfl,rfl⟩:=z;exact ⟨c,.ref sA,by simp,RF,by dsimp only [Rd];exact ⟨sA,rfl,ha⟩⟩
  ·have z:=al q;simp [o6] at z;subst z;exact ⟨c,_,by simp,RF⟩
  ·have z1:=al q1;have z2:=al q2;simp at z1 z2;rw [z1.1,z2.1]
  ·simp at hp;subst hp;refine ⟨fun q=>?_,fun hm=>?_,fun hm=>?_,o,t1.ok.sub _ _ hc⟩
   ·have:=hw.sub _ _ hc;have q:c=s.heap.objs.size:=q;rw [q,bv] at this;cases this
   ·rw [hw.RD c hm] at hc;cases hc
   ·rw [(hw.RI c hm).1] at hc;cases hc
  ·have z:=al q;simp at z;rw [z.1];rfl
 exact Ex.into (Qw.e (Lg e) rfl t1.ok R hA.deeper) fun v W2 s2 k2 r2=>⟨W2,t1.Qn k2,r2⟩
end
set_option maxRecDepth 100000
section
variable {prog:bY} {w:jl} {A:bf} {E:ag->ah->Prop} {h:Heap} {g:Array di} {d:Drawn} {t:Nat} {os:kD}
variable {nm q:Str} {C N x:Addr} {bs:List ag} {sn:List Str} {sub:List ag} {ab:Bool} {col:Option Bool} {dd:Option Addr} {k0 k1 k2 k3 k5:Option ag} {newId:String}
 {mN mA:Str->Option ag} {name:Str} {v:ag}
theorem Bd:∀ {pl:Sem Bool} {Q:ag×List ag->ah->Prop} (hC:h.get? C=some (hZ nm q C N bs [.type "object"] true sn sub ab col dd k0 k1 k2 k3 k5 newId)) (hn:h.Ns N mN) (hng:mN "__getattribute__" =none) (Yv:mN "__getattr__" =none) (XT:mN name=none) (hB:bI (.type "object") name=pure none) (I:h.Inst x C mA) (hv:mA name=some v) (hh:kB v=pure v) (hq:Q (v,[]) ⟨h,g,d,t+1,os⟩),aD (aC prog w) A (getMethod (.ref x) name pl) Q E ⟨h,g,d,t,os⟩:=by iterate 12
 obtain ⟨o,hx,hc,_⟩:=id I;unfold getMethod specialOf;repeat (first | (with_reducible refine d8 hx ?_;rw [hc]) | (with_reducible refine dg hC hn gr oK ?_;rw [hng]) | (with_reducible refine dg hC hn gr mu ?_;rw [Yv]) | (with_reducible refine dg hC hn gr hB ?_;rw [XT]) | simp only [F.canon_object_ga,bX,if_false] | wp_step)
 show aD _ _ ((runValue (.builtin "proto.getattr_hooked" ⟨[.ref x,.str name t],[]⟩)).onRaise (noteIf true (.ref x) (.str name t))) _ _ _;refine lE (wpAny_runValue (codeAny_builtin jr (load_entry hC hn XT hB I hv ?_)));show aD _ _ (kB v) _ _ _;rw [hh];exact ay (ay hq)
end
section
variable {J:Cx} {A:bf} {W W0:Wd} {s s0:ah} {X:List Addr} {sc:aX} {env:Env}
theorem D1:∀ {m:Str} {a fn:Addr} {mA:Str->Option ag} {o:Expr} {apos pos:Pos} {k:Nat} {trees:List (Bool×Sem ag)} {Q:ag->ah->Prop} {E:ag->ah->Prop} (kl:Kl J) (hI:s.heap.Inst a J.cls mA) (hm:mA m=some (.ref fn)) (hn:m∈Rk) (hB:bI (.type "object") m=pure none) (hf:eH fn s.heap) (hp:trees.any (·.1)=false) (hk:k<30) (hl:(apos.endLine==pos.line)=true) (hw:Qs J W s) (h:aD (aC P0 J.w) A (eM trees) (fun vs s'=>eH fn s'.heap/\aD (aC P0 J.w) A (call (.ref fn) vs) Q E s') E {s with toks:=s.toks+1}),aD (aC P0 J.w) A (eG o m apos pos env (.ref a) k trees []) Q E s:=by iterate 22
 obtain ⟨N,mN,hc,h0,UG⟩:=kl.ex;have Rz:fD true o env apos pos=pure pos:=by unfold fD;simp [hl]
 unfold eG;rw [AY hp hk];have Ua:=hw.QB;obtain ⟨Wo,g,d,t,os⟩:=s;have X:=hc Wo Ua;obtain ⟨nm,q,bs,sn,sub,col,dd,k0,k1,k2,k3,k5,hC⟩:=X.obj;refine ae (bu (Bd hC X.ns (h0 _ (by decide)) (h0 _ (by decide)) (h0 _ hn) hB hI hm rfl ?_));refine ae (gb Rz ?_);exact c9 (P:=eH fn) (by simp [hp]) (fun h=>cX h) (pE hp h)
theorem GU:∀ {i:Nat} {ln ln':Int} {t':Tok} {src:Option Nat} {pb:List D} {a:Addr} (kl:Kl J) (hw:Qs J W s) (h1:W.H[i]? =some (.lex ln src pb)) (ha:W.as[i]? =some a),Ex J A (setAttr (.ref a) "lineno" (.int ln' t')) [] W s (fun _ W' _=>W'.H=W.H.set i (.lex ln' src pb)/\W'.as=W.as/\W'.F=W.F):=by iterate 11
 obtain ⟨N,mN,hc,h0,_⟩:=kl.ex;obtain ⟨dA,pA,iv,t,u,vs,hf,Ue,UR,e1,hd,e4,e5,e6,e8,hI⟩:=pR hw h1 ha;have Yg:=hw;obtain ⟨hp,g,d,tk,os⟩:=s;have X:=hc hp hw.QB;obtain ⟨nm,q,bs,sn,sub,col,dd,k0,k1,k2,k3,k5,hC⟩:=X.obj;have Rt:a≠J.cls:=by rintro rfl;obtain ⟨ob,z1,z2,_⟩:=e1;have z:=hw.sub _ _ z1;have z:hp.get? J.cls=_:=z;rw [hC] at z;cases z;cases z2
 refine store_attr (ns:=["lineno","instream","whitespace","pushback"]) kh hC X.ns (h0 _ (by decide)) (h0 _ (by decide)) rQ Rt hI (fun h' Zq I' hk ho=>?_) ?_ (by decide)
 ·exact ⟨_,LN (X:=[]) (tk:=Zq) Yg h1 ha hf e4 I' hk ho,rfl,rfl,rfl⟩
 ·intro x hx;unfold tO at hx;by_cases q1:x="lineno"
  ·simp [q1]
  by_cases q2:x="instream"
  ·simp [q2]
  by_cases q3:x="whitespace"
  ·simp [q3]
  by_cases q4:x="pushback"
  ·simp [q4]
  rw [if_neg q1,if_neg q2,if_neg q3,if_neg q4] at hx;exact absurd rfl hx
noncomputable def Q0:Fn:=⟨["self"],(.mk .function [("self",.local),("ch",.local)] false false []),
 [(.Assign [(.Name "ch" ⟨129,8,129,10⟩)] (.Call (.Attribute (.Attribute (.Name "self" ⟨129,13,129,17⟩) "instream" ⟨129,13,129,26⟩) "read" ⟨129,13,129,31⟩) [(.Constant (.int 1) 0 ⟨129,32,129,33⟩)] [] ⟨129,13,129,34⟩) ⟨129,8,129,34⟩),
  (.If (.Compare (.Name "ch" ⟨130,11,130,13⟩) [.Eq] [(.Constant (.str "\n") 0 ⟨130,17,130,21⟩)] ⟨130,11,130,21⟩) [(.AugAssign (.Attribute (.Name "self" ⟨131,12,131,16⟩) "lineno" ⟨131,12,131,23⟩) .Add (.Constant (.int 1) 0 ⟨131,27,131,28⟩) ⟨131,12,131,28⟩)] [] ⟨130,8,131,28⟩),
  (.Return (some (.Name "ch" ⟨132,15,132,17⟩)) ⟨132,8,132,17⟩)]⟩
theorem zj:vZ (pC P0 "_netrclex") "_read_char" =some Q0:=by iterate 0 rfl'
theorem wS:∀ {g g2:G} {i:Nat} {d:D} (h:wF g i=some (d,g2)),∃ ln j pb cs,g[i]? =some (.lex ln (some j) pb)/\g[j]? =some (.sg cs)/\d= .str (cs.take 1)/\
  (g2=if cs.take 1=[10] then (ya g j cs).set i (.lex (ln+1) (some j) pb) else ya g j cs):=by iterate 5
 replace h:=vK h;obtain ⟨o,e,⟨ln,src,pb⟩,h1,j,h2,h⟩:=h;replace h:=qO h;obtain ⟨o',e2,cs,h3,h⟩:=h;cases sS h1;cases (show src=some j from h2);cases sJ h3;refine ⟨ln,j,pb,cs,e,e2,?_⟩;cases cs with | nil=>cases h;exact ⟨rfl,(if_neg (by simp)).symm⟩ | cons c r=>cases h;exact ⟨rfl,by simp [ya]⟩
theorem CP:∀ {g:G} {i j:Nat} {ln:Int} {src:Option Nat} {pb:List D} {cs:List Nat} (h1:g[i]? =some (.lex ln src pb)) (h2:g[j]? =some (.sg cs)),j≠i:=by iterate 9 rintro rfl;rw [h1] at h2;cases h2
theorem G2:∀ {g:G} {i j:Nat} {cs:List Nat} (h:j≠i),(ya g j cs)[i]? =g[i]?:=by iterate 5 cases cs with | nil=>rfl | cons c r=>unfold ya;rw [kZ h]
theorem tF:∀ {i:Nat} {a:Addr} {v:ag} (ha:W.as[i]? =some a) (r:Rd J W.F W.as (.loc i) v),v= .ref a:=by iterate 5 obtain ⟨a',rfl,q⟩:=r;rw [ha] at q;cases q;rfl
theorem wp:∀ {f:Addr} {i:Nat} {d:D} {g2:G} {a:Addr} (fx:Fx J) (kl:Kl J) (Qw:Ok J 9) (QE:FnAt J (F0 J) f Q0) (h:wF W.H i=some (d,g2)) (ha:W.as[i]? =some a) (hw:Qs J W s) (hA:Qx 12 A),bQ (aC P0 J.w) A (.call (.ref f) ⟨[.ref a],[]⟩) (fun r s'=>∃ v,r= .ok (.ret v)/\∃ W',Qp J [] W s W' s'/\li J d g2 v W' s') s:=by iterate 13
 obtain ⟨ln,j,pb,cs,h1,h2,rfl,rfl⟩:=wS h;have R0:Rd J W.F W.as (.loc i) (.ref a):=⟨a,rfl,ha⟩
 refine vo (ds:=[.loc i]) fx QE rfl (by have:=hA.2.1;omega) ⟨_,_,rfl,R0,rfl⟩ hw fun env Ql R _=>?_;have RT:=R.ok;have Q4:Qx 11 (A.deeper env):=hA.deeper;obtain ⟨dA,pA,iv,t,u,vs,hf,Ue,UR,e1,hd,e4,e5,e6,e8,hI⟩:=pR RT h1 ha;obtain ⟨st,dS,fn,c,sA,r,o,rfl,f2,f0,f3,f4,f5,f6,f7⟩:=e8;obtain ⟨v1,Sj,r1⟩:=R.R.vars "self" (.loc i) (by rfl');have Ul:=tF ha r1;subst Ul;show aD _ _ (gg Q0.body env) _ _ _;unfold Q0;refine ao (bj ?_ rfl);rw [jj];refine ae (ui kl Sj R.R.kind (by decide) hI (by rfl) rfl (by decide) uC RT (ae (bt ?_)));have w2:=Qp.toks (X:=[]) (tk:=Ql.toks+1) RT;have abI:Ql.heap.Inst st J.cls (J9 fn r):=by obtain ⟨o3,es,ep,z1,z2⟩:=f3;obtain ⟨ob,y1,y2,y3,y4⟩:=f2;exact ⟨ob,RT.sub _ _ y1,y2,y4,.inr ⟨dS,y3,f0,o3,es,ep,RT.sub _ _ z1,z2⟩⟩
 have hfn:∀ h:Heap,(∀ a o,W.F a=some o->h.get? a=some o)->eH fn h:=fun h k=>by obtain ⟨_,_,_,_,_,ob,_,_,_,_,_,_,_,_,_,z3,z4,_⟩:=f4;have z3:=k _ _ z3;obtain ⟨oc,od,dt,sl⟩:=ob;dsimp only at z4;subst z4;exact ⟨oc,od,_,sl,z3⟩
 refine D1 kl abI (by rfl) (by decide) yI (hfn _ RT.sub) rfl (by decide) rfl w2.ok ?_;refine aR (bO ?_) rfl;refine aZ ⟨hfn _ RT.sub,?_⟩;have t3:Qp J [] W Ql W {Ql with toks:=Ql.toks+1+1+1}:=Qp.toks RT;refine Ex.into (Gf fx Qw f4 f5 f6 f7 h2 t3.ok (Q4.le (by omega))) fun v W4 s4 k4 z0=>?_;obtain ⟨UE,rv⟩:=z0;have R4:=R.expr (t3.Qn k4);refine af (R4.store (x:="ch") (d:= .str (cs.take 1)) (by decide) rfl rv) (fun _ s5 z1=>?_) fun _ _ f=>f;obtain ⟨_,R5⟩:=z1;have Rt:=CP h1 h2;have h14:W4.H[i]? =some (.lex ln (some j) pb):=by rw [UE,G2 Rt];exact h1
 have ha4:=k4.as _ _ ha;have ht:ceT P0 9 Q0.scope ((⟨Q0.params.zip [D.loc i],[],none⟩:St).withRho (("ch",.str (cs.take 1))::Q0.params.zip [D.loc i])) (.Compare (.Name "ch" ⟨130,11,130,13⟩) [.Eq] [(.Constant (.str "\n") 0 ⟨130,17,130,21⟩)] ⟨130,11,130,21⟩) W4.H=some (cs.take 1==[10],W4.H):=by rfl'
 refine ao (fC (Ex.into (Qw.t ht rfl R5.ok R5.R (Q4.le (by omega))) fun b W6 s6 k6 z2=>?_));obtain ⟨hb,hg6⟩:=z2;subst hb;have R6:=R5.expr k6;have fin:∀ W7 s7,Qp J [] W6 s6 W7 s7->aD (aC P0 J.w) (A.deeper env) (gg [(.Return (some (.Name "ch" ⟨132,15,132,17⟩)) ⟨132,8,132,17⟩)] env)
   (fun f s'=>∃ v,(.ok (.ret (match f with | .ret v=>v | _=> .none)):iy)= .ok (.ret v)/\∃ W',Qp J [] W s W' s'/\li J (.str (cs.take 1)) W7.H v W' s') (fun _ _=>False) s7:=fun W7 s7 k7=>by
  have R7:=R6.expr k7;obtain ⟨v7,hv7,r7⟩:=R7.R.vars "ch" (.str (cs.take 1)) (by rfl');refine ao (cm (bq (cr hv7 R7.R.kind (by decide) ?_) (by decide)));exact ⟨_,rfl,W7,R7.tr,rfl,r7⟩
 have h16:W6.H[i]? =some (.lex ln (some j) pb):=by rw [hg6];exact h14
 have ha6:=(k6.as _ _ ha4)
 by_cases hc:cs.take 1=[10]
 ·rw [hc];rw [hc] at fin;obtain ⟨v6,hv6,r6⟩:=R6.R.vars "self" (.loc i) (by rfl');have r6':=tF ha6 r6;subst r6';obtain ⟨dA',pA',iv',t',u',SX,Xm,ae6,aeU,Xy,Vr,e4',e5',e6',e8',V5⟩:=pR R6.ok h16 ha6;refine ao (wpAny_AugAssign_AttributeAny (bq (cr hv6 R6.R.kind (by decide) ?_) (by decide)));refine ux kl V5 (by rfl) rfl (by decide) rQ R6.ok ?_;refine bO ?_;have t7:Qp J [] W6 s6 W6 {s6 with toks:=s6.toks+1+1}:=Qp.toks R6.ok;refine Ex.into (wW (X:=[]) (op:= .Add) (a:= .int ln) (b:= .int 1) (d:= .int (ln+1)) rfl (by dsimp only [Rd];exact ⟨_,rfl⟩) (by dsimp only [Rd];exact ⟨_,rfl⟩) t7.ok) fun v8 W8 s8 k8 z3=>?_;obtain ⟨ZN,r8⟩:=z3;dsimp only [Rd] at r8;obtain ⟨t8,rfl⟩:=r8;have h18:W8.H[i]? =some (.lex ln (some j) pb):=by rw [ZN];exact h16
  refine Ex.into (GU (t':=t8) (ln':=ln+1) kl k8.ok h18 (k8.as _ _ ha6)) fun _ W9 s9 k9 y0=>?_;obtain ⟨VY,_⟩:=y0;refine aW ?_;have q:W9.H=(ya W.H j cs).set i (.lex (ln+1) (some j) pb):=by rw [VY,ZN,hg6,UE]
  rw [<-q];exact fin W9 s9 ((t7.Qn k8).Qn k9)
 ·rw [if_neg hc];have hb:(cs.take 1==[10])=false:=by simpa using hc
  rw [hb];refine aW ?_;have q:W6.H=ya W.H j cs:=by rw [hg6,UE]
  rw [<-q];exact fin W6 s6 (Qp.refl R6.ok)
theorem HN:∀ {f:Addr} {i:Nat} {d:D} {g2:G} {a:Addr} (fx:Fx J) (kl:Kl J) (Qw:Ok J 9) (QE:FnAt J (F0 J) f Q0) (h:wF W.H i=some (d,g2)) (ha:W.as[i]? =some a) (hw:Qs J W s) (hA:Qx 12 A),Ex J A (call (.ref f) [.ref a]) [] W s (li J d g2):=by iterate 13 exact (eV (cP (wp fx kl Qw QE h ha hw hA) fun _ _ z5=>by obtain ⟨_,e,h⟩:=z5;subst e;exact h))
end
theorem Ey:bI (.type "object") (bB "push_token")=pure none:=by iterate 0 rw [bM,bp];rfl'
theorem xP:bI (.type "object") (bB "_read_char")=pure none:=by iterate 0 rw [bM,bp];rfl'
theorem AE:bI (.type "object") (bB "get_token")=pure none:=by iterate 0 rw [bM,bp];rfl'
theorem xe:∀ {m:Str} {i:Nat} {ds:List D} {d:D} {g g2:G} (h:methD m (.loc i) ds g=some (d,g2)),(ds=[]/\((m="get_token" /\w0 g i=some (d,g2))\/(m="_read_char" /\wF g i=some (d,g2))))\/
  (∃ d1,ds=[d1]/\((m="push_token" /\∃ ln src l,g[i]? =some (.lex ln src l)/\l.length<lim/\d= .none/\g2=g.set i (.lex ln src (l++[d1])))\/m="pop")):=by iterate 7
 cases ds with
 | nil=>
  refine .inl ⟨rfl,?_⟩;replace h:vq m g i=some (d,g2):=h;unfold vq at h;split at h
  ·rename_i q;exact .inl ⟨eq_of_beq q,h⟩
  ·split at h
   ·rename_i q;exact .inr ⟨eq_of_beq q,h⟩
   ·cases h
 | cons d1 r=>
  replace h:=bi h;obtain ⟨_,h1,h⟩:=h;cases oY h1;refine .inr ⟨d1,rfl,?_⟩;split at h
  ·rename_i q;replace h:=qO h;obtain ⟨o,e,⟨ln,src,l⟩,h2,h⟩:=h;cases sS h2;split at h
   ·rename_i hl;cases h;exact .inl ⟨eq_of_beq q,ln,src,l,e,hl,rfl,rfl⟩
   ·cases h
  ·split at h
   ·rename_i q;exact .inr (eq_of_beq q)
   ·cases h
section
variable {J:Cx} {A:bf} {W W0:Wd} {s s0:ah} {X:List Addr} {sc:aX} {env:Env}
theorem uv:∀ {m:Str} {fn:Fn} {i:Nat} {ds:List D} {g1:G} {ov:ag} {o:Expr} {apos pos:Pos} {k:Nat} {trees:List (Bool×Sem ag)} {P:ag->Wd->ah->Prop} (kl:Kl J) (hf:vZ (pC P0 "_netrclex") m=some fn) (hm:∀ ln iv ws pA,tO ln iv ws pA m=none) (hB:bI (.type "object") m=pure none) (Ra:∃ ln src pb,g1[i]? =some (.lex ln src pb)) (Vk:W.H[i]?.map kindOf=g1[i]?.map kindOf) (r:Rd J W.F W.as (.loc i) ov) (hw:Qs J W s) (hp:trees.any (·.1)=false) (hk:k<30) (hl:(apos.endLine==pos.line)=true) (ht:Ex J A (eM trees) [] W s (fun vs W' _=>W'.H=g1/\Qt J W'.F W'.as ds vs)) (run:∀ f a W1 s1 vs,FnAt J (F0 J) f fn->W1.H=g1->W1.as[i]? =some a->Qt J W1.F W1.as ds vs->Qs J W1 s1->Ex J A (call (.ref f) (.ref a::vs)) [] W1 s1 P),Ex J A (eG o m apos pos env ov k trees []) [] W s P:=by iterate 25 obtain ⟨ln1,ad0,pb1,e1⟩:=Ra;obtain ⟨ln,src,pb,e0⟩:=GQ Vk e1;dsimp only [Rd] at r;obtain ⟨a,rfl,ha⟩:=r;obtain ⟨dA,pA,iv,t,u,vs,Xm,Ue,UR,_,hd,e4,e5,e6,e8,hI⟩:=pR hw e0 ha;refine EP kl hf hI (hm _ _ _ _) hB hp hk hl hw (fun f QE=>Ex.into ht fun vs W1 s1 k1 y0=>?_);obtain ⟨hg,rv⟩:=y0;refine ⟨k1.ok.QB,?_⟩;exact Ex.into (run f a W1 s1 vs QE hg (k1.as _ _ ha) rv k1.ok) fun v W2 s2 k2 p=>⟨W2,k1.Qn k2,p⟩
theorem Hf:∀ {n:Nat} {m:Str} {i:Nat} {ds:List D} {d:D} {g1 g2:G} {o:Expr} {apos pos:Pos} {k:Nat} {trees:List (Bool×Sem ag)} {ov:ag} (fx:Fx J) (kl:Kl J) (Qw:10<=n->Ok J 9) (VX:m≠"get_token") (h:methD m (.loc i) ds g1=some (d,g2)) (XU:J8 m<=n) (Vk:W.H[i]?.map kindOf=g1[i]?.map kindOf) (r:Rd J W.F W.as (.loc i) ov) (hw:Qs J W s) (hA:Qx n A) (hp:trees.any (·.1)=false) (hk:k<30) (hl:(apos.endLine==pos.line)=true) (ht:Ex J A (eM trees) [] W s (fun vs W' _=>W'.H=g1/\Qt J W'.F W'.as ds vs)),Ex J A (eG o m apos pos env ov k trees []) [] W s (li J d g2):=by iterate 27
 rcases xe h with ⟨rfl,⟨q,_⟩ | ⟨rfl,h1⟩⟩ | ⟨d1,rfl,⟨rfl,ln,src,l,e1,hl1,rfl,rfl⟩ | rfl⟩
 ·exact absurd q VX
 ·have hn:15<=n:=XU;obtain ⟨ln,j,pb,cs,e1,_,_,_⟩:=wS h1;refine uv kl zj (fun _ _ _ _=>by rfl) xP ⟨_,_,_,e1⟩ Vk r hw hp hk hl ht fun f a W1 s1 vs QE hg ha rv RT=>?_;rw [sV rv];subst hg;exact HN fx kl (Qw (by omega)) QE h1 ha RT (hA.le (by omega))
 ·have hn:10<=n:=XU;refine uv kl EH (fun _ _ _ _=>by rfl) Ey ⟨_,_,_,e1⟩ Vk r hw hp hk hl ht fun f a W1 s1 vs QE hg ha rv RT=>?_;obtain ⟨v,rfl,rv'⟩:=qz rv;subst hg;exact HR fx kl QE e1 hl1 ha rv' RT (hA.le (by omega))
 ·exact Ge h Vk r hw hp hk hl ht
end
theorem uU:Slot "callable_iterator" "__iter__" "callable_iterator.__iter__" :=by iterate 0
 exact (.of (owner:="callable_iterator") (n:="__iter__") (by rw [bM,bp];rfl') (by decide+kernel) (by decide+kernel) (by decide+kernel)
  (by first | exact .inl (by decide+kernel) | exact .inr (by decide+kernel)) (by rw [isSubtype_type];rfl'))
theorem QJ:Slot "callable_iterator" "__next__" "callable_iterator.__next__" :=by iterate 0
 exact (.of (owner:="callable_iterator") (n:="__next__") (by rw [bM,bp];rfl') (by decide+kernel) (by decide+kernel) (by decide+kernel)
  (by first | exact .inl (by decide+kernel) | exact .inr (by decide+kernel)) (by rw [isSubtype_type];rfl'))
theorem su:entryFor table "callable_iterator.__next__" =some ie.«callable_iterator.__next__» :=by iterate 0 exact (nX (by rfl'))
theorem Aw:Manifest.owners.lookup (String.ofList ['r','o','t','a','r','e','t','i','_','e','l','b','a','l','l','a','c'].reverse)=some Manifest.sig_callable_iterator:=by iterate 0 rfl'
theorem yw:entryFor table "callable_iterator.__iter__" =some ie.«dict_keyiterator.__iter__» :=by iterate 0 exact (entryFor_alias (id':="dict_keyiterator.__iter__") (by rfl') (by decide+kernel) (by decide+kernel) (by rfl'))
theorem sW:∀ (a:ag),argsOk "callable_iterator.__next__" ⟨[a],[]⟩:=by iterate 1 unfold argsOk;rw [signature?_of (id:="callable_iterator.__next__") (n:=['_','_','t','x','e','n','_','_']) (o:=['r','o','t','a','r','e','t','i','_','e','l','b','a','l','l','a','c']) (by rfl') Aw];rfl'
theorem zu:∀ (a:ag),argsOk "callable_iterator.__iter__" ⟨[a],[]⟩:=by iterate 1 unfold argsOk;rw [signature?_of (id:="callable_iterator.__iter__") (n:=['_','_','r','e','t','i','_','_']) (o:=['r','o','t','a','r','e','t','i','_','e','l','b','a','l','l','a','c']) (by rfl') Aw];rfl'
noncomputable abbrev rW (M:ag) (sv:ag) (e:Bool):Obj:={cls:= .type "callable_iterator",data:= .fields #[M,sv,.bool e]}
noncomputable abbrev qd (f a:Addr):Obj:={cls:= .type "method",data:= .fields #[.ref f,.ref a]}
section
variable {prog:bY} {w:jl} {A:bf} {E:ag->ah->Prop} {s:ah} {I M f a:Addr} {tk:Tok}
theorem Iu:∀ {sv Mv:ag} {e:Bool} {Q:ag->ah->Prop} (hI:s.heap.get? I=some (rW Mv sv e)) (h:Q (.ref I) s),aD (aC prog w) A (kz (.ref I)) Q E s:=by iterate 6 refine wpAny_pyIter_slot ⟨_,hI,rfl⟩ uU (eh uU ⟨_,hI,rfl⟩ yw ?_ (zu _));exact ay ⟨_,rfl,"callable_iterator",_,⟨_,hI,rfl⟩,QJ.lookup,h⟩
theorem xL:∀ {f:Addr} {pos:List ag} {R:iy->ah->Prop} (hb:s.heap.get? M=some (qd f a)) (hq:bQ (aC prog w) A (.call (.ref f) ⟨.ref a::pos,[]⟩) R s),bQ (aC prog w) A (.call (.ref M) ⟨pos,[]⟩) R s:=by iterate 5 refine codeAny_of_tree ?_;show aD _ A.in1 (callAny (.ref M) ⟨pos,[]⟩) _ _ _;unfold callAny;refine ae (wpAny_load hb ?_);exact ay ⟨rfl,hq⟩
theorem rI:∀ {M:Model} {f:ag} {pos:List ag} {Q:ag->ah->Prop} (hc:bQ M A (.call f ⟨pos,[]⟩) (fun r s'=>match r with | .ok (.ret v)=>Q v s' | .ok _=>False | .error e=>E e s') s),aD M A (callBorrowed f pos) Q E s:=by iterate 5
 exact (fun J p hΓ=>by
 unfold callBorrowed;rw [Sem.wp_call];refine cP hc (fun r s' h=>?_) _ p rfl (hΓ.enter _ none p (by intro x;cases x));cases r with
 | error e=>exact h
 | ok f=>cases f<;>first | exact h | exact h.elim)
theorem zQ:∀ {f:Addr} {fd:eO} {o:Obj} {Q:Bool->ah->Prop} (hM:s.heap.get? M=some (qd f a)) (hf:s.heap.get? f=some o) (hd:o.data= .func fd) (h:Q true s),aD (aC prog w) A (borrowsExactly (.ref M)) Q E s:=by iterate 8
 obtain ⟨cls,QH,data,sl⟩:=o;simp only at hd;subst hd;obtain ⟨hp,g,d,t,os⟩:=s;unfold borrowsExactly;repeat (first | (with_reducible refine mI hM ?_) | (with_reducible refine mI hf ?_) | wp_step)
 exact h
theorem zx:∀ {fd:eO} {o:Obj} {sv:Str} {u:Tok} {Q:Option ag->ah->Prop} (hI:s.heap.get? I=some (rW (.ref M) (.str sv u) false)) (hM:s.heap.get? M=some (qd f a)) (hf:s.heap.get? f=some o) (hd:o.data= .func fd) (hc:bQ (aC prog w) A.in1 (.call (.ref f) ⟨[.ref a],[]⟩) (fun r s'=>∃ c t,r= .ok (.ret (.str c t))/\c≠sv/\s'.heap.get? I=some (rW (.ref M) (.str sv u) false)/\Q (some (.str c t)) s') s),aD (aC prog w) A (eF (.ref I)) Q E s:=by iterate 10
 unfold eF;refine ae (fB (dv (name:=bB "__next__") ⟨_,hI,rfl⟩ QJ
  (eh QJ ⟨_,hI,rfl⟩ su ?_ (sW _))))
 show aD _ _ (lI (.ref I) 2 >>=_) _ _ s;refine ae (dX hI rfl (x:= .bool false) rfl ?_);show aD _ _ (if (bJ false==bJ true)=true then _ else _) _ _ s;rw [if_neg (show ¬ ((bJ false==bJ true)=true) from aJ)];show aD _ _ (lI (.ref I) 0 >>=_) _ _ s;refine ae (dX hI rfl (x:= .ref M) rfl ?_);refine ae (fB ?_);unfold callOutOfASlot;refine ae (zQ hM hf hd ?_);rw [if_pos rfl];refine rI (xL hM ?_);refine cP hc fun r s' z0=>?_;obtain ⟨c,t,hr,Rt,V5,hq⟩:=z0;subst hr;show aD _ _ (lI (.ref I) 2 >>=_) _ _ s';refine ae (dX V5 rfl (x:= .bool false) rfl ?_);show aD _ _ (if (bJ false==bJ true)=true then _ else _) _ _ s';rw [if_neg (show ¬ ((bJ false==bJ true)=true) from aJ)];show aD _ _ (lI (.ref I) 1 >>=_) _ _ s';refine ae (dX V5 rfl (x:= .str sv u) rfl ?_);refine ae (bu (nW ?_));rw [decide_eq_false (dz Rt)];exact ae (ay (ay ⟨_,rfl,ay hq⟩))
theorem wy:∀ {α:Type} {P:α->ah->Prop} {Q:Option ag->ah->Prop} (hh:A.handled=none) (hq:∀ h',(∀ b o,s.heap.get? b=some o->h'.get? b=some o)->Q none {s with heap:=h'}),aD (aC prog w) A.in1 (lZ:Sem α) P
   (fun e s'=>aD (aC prog w) A (do if <-isInstance e (.type "StopIteration") then pure none else throw e) Q E s') s:=by iterate 5
 show aD _ _ (newExc (.type "StopIteration") [] >>=_) _ _ _;refine ae ?_;simp only [newExc,newTuple];refine ae (dj ?_ (by size_fits));refine ae (m:=iM _ _) (gb (a:=iI) (by first | rfl | (simp only [iM];rfl)) ?_);refine dj ?_ (by size_fits);unfold raiseNew;refine ae (wpAny_handled ?_);rw [show A.in1.handled=none from hh];refine ae (ay (wpAny_throw ?_));refine ae (nR (T:="StopIteration") (b:=true) ⟨_,ax _ rfl,rfl⟩ isSubtype_stop ?_);exact ay (hq _ fun b o e=>aF _ (aF _ e))
theorem zz:∀ {Q:Option ag->ah->Prop} (hh:A.handled=none) (hI:s.heap.get? I=some (rW .none .none true)) (hq:∀ h',(∀ b o,s.heap.get? b=some o->h'.get? b=some o)->Q none {s with heap:=h'}),aD (aC prog w) A (eF (.ref I)) Q E s:=by iterate 4
 unfold eF;refine ae (fB (dv (name:=bB "__next__") ⟨_,hI,rfl⟩ QJ
  (eh QJ ⟨_,hI,rfl⟩ su ?_ (sW _))))
 show aD _ _ (lI (.ref I) 2 >>=_) _ _ s;refine ae (dX hI rfl (x:= .bool true) rfl ?_);show aD _ _ (if (bJ true==bJ true)=true then _ else _) _ _ s;rw [if_pos (show ((bJ true==bJ true)=true) from rfl)];refine ae (ll (ae ?_));exact af (wy (P:=fun _ _=>False) hh hq) (fun _ _ h=>h.elim) fun _ _ h=>h
theorem LY:∀ {fd:eO} {o:Obj} {who:String} {busy:Code->Bool} {Q:Unit->ah->Prop} (hM:s.heap.get? M=some (qd f a)) (hf:s.heap.get? f=some o) (hd:o.data= .func fd) (h:Q () s),aD (aC prog w) A (slotLetsGo who (.ref M) busy) Q E s:=by iterate 9 unfold slotLetsGo;refine ae (zQ hM hf hd ?_);exact ay h
theorem AX:∀ {fd:eO} {o:Obj} {sv:Str} {u:Tok} {Q:Option ag->ah->Prop} (hh:A.handled=none) (hI:s.heap.get? I=some (rW (.ref M) (.str sv u) false)) (hM:s.heap.get? M=some (qd f a)) (hf:s.heap.get? f=some o) (hd:o.data= .func fd) (hc:bQ (aC prog w) A.in1 (.call (.ref f) ⟨[.ref a],[]⟩) (fun r s'=>∃ t,r= .ok (.ret (.str sv t))/\s'.heap.get? I=some (rW (.ref M) (.str sv u) false)/\s'.heap.get? M=some (qd f a)/\s'.heap.get? f=some o/\
   ∀ h',(∀ b o,b≠I->s'.heap.get? b=some o->h'.get? b=some o)->h'.get? I=some (rW .none .none true)->Q none {s' with heap:=h'}) s),aD (aC prog w) A (eF (.ref I)) Q E s:=by iterate 11
 unfold eF;refine ae (fB (dv (name:=bB "__next__") ⟨_,hI,rfl⟩ QJ
  (eh QJ ⟨_,hI,rfl⟩ su ?_ (sW _))))
 show aD _ _ (lI (.ref I) 2 >>=_) _ _ s;refine ae (dX hI rfl (x:= .bool false) rfl ?_);show aD _ _ (if (bJ false==bJ true)=true then _ else _) _ _ s;rw [if_neg (show ¬ ((bJ false==bJ true)=true) from aJ)];show aD _ _ (lI (.ref I) 0 >>=_) _ _ s;refine ae (dX hI rfl (x:= .ref M) rfl ?_);refine ae (fB ?_);unfold callOutOfASlot;refine ae (zQ hM hf hd ?_);rw [if_pos rfl];refine rI (xL hM ?_);refine cP hc fun r s' z1=>?_;obtain ⟨t,hr,V5,hM',Xm,hq⟩:=z1;subst hr;show aD _ _ (lI (.ref I) 2 >>=_) _ _ s';refine ae (dX V5 rfl (x:= .bool false) rfl ?_);show aD _ _ (if (bJ false==bJ true)=true then _ else _) _ _ s';rw [if_neg (show ¬ ((bJ false==bJ true)=true) from aJ)];show aD _ _ (lI (.ref I) 1 >>=_) _ _ s';refine ae (dX V5 rfl (x:= .str sv u) rfl ?_);refine ae (bu (nW ?_));rw [decide_eq_true rfl];refine ae (ll (ae ?_));show aD _ _ (lI (.ref I) 0 >>=_) _ _ s';refine ae (dX V5 rfl (x:= .ref M) rfl ?_);refine ae (LY hM' Xm hd ?_);refine ae (je V5 (by simp) fun h1 q1 k1=>?_);refine ae (je q1 (by simp) fun h2 q2 k2=>?_);refine je q2 (by simp) fun h3 q3 k3=>?_;have kk:∀ b o,b≠I->s'.heap.get? b=some o->h3.get? b=some o:=fun b o hb e=>(k3.2 b hb).trans ((k2.2 b hb).trans ((k1.2 b hb).trans e));exact af (wy (P:=fun _ _=>False) hh fun h' k=>hq h' (fun b o hb e=>k b o (kk b o hb e)) (k _ _ (by simpa using q3))) (fun _ _ h=>h.elim) fun _ _ h=>h
end
end MP.Lake
set_option maxRecDepth 100000
namespace MP.Lake
open PySem PyProof.Rows Builtin Builtin.ObjectAttr
theorem Em:bI (.type "function") "__get__" =pure (some (.builtin "function.__get__")):=by iterate 0 rw [bM,bp];rfl'
theorem DD:bI (.type "function") "__set__" =pure none:=by iterate 0 rw [bM,bp];rfl'
theorem D7:bI (.type "function") "__delete__" =pure none:=by iterate 0 rw [bM,bp];rfl'
section
variable {prog:bY} {w:jl} {A:bf} {E:ag->ah->Prop} {h:Heap} {g:Array di} {d:Drawn} {t:Nat} {os:kD}
variable {nm q:Str} {C N x f:Addr} {bs:List ag} {sn:List Str} {sub:List ag} {ab:Bool} {col:Option Bool} {dd:Option Addr} {k0 k1 k2 k3 k5:Option ag} {newId:String}
 {mN mA:Str->Option ag} {name:Str} {v:ag} {fo:Obj}
theorem BH:∀ {tk:Tok} {Q:Fin->ah->Prop} (hC:h.get? C=some (hZ nm q C N bs [.type "object"] true sn sub ab col dd k0 k1 k2 k3 k5 newId)) (hn:h.Ns N mN) (XT:mN name=some (.ref f)) (VH:h.get? f=some fo) (XZ:fo.cls= .type "function") (Yv:mN "__getattr__" =none) (hB:bI (.type "object") name=pure none) (I:h.Inst x C mA) (hv:mA name=none) (US:(["__module__","__name__","__qualname__","__doc__","__annotations__"]:List Str).contains name=false) (hq:Q (.done (.ret (.ref h.objs.size))) ⟨h.push (qd f x),g,d,t,os⟩),aD (aC prog w) A (ie.«proto.getattr_hooked» ⟨[.ref x,.str name tk],[]⟩) Q E ⟨h,g,d,t,os⟩:=by iterate 13
 obtain ⟨o,hx,hc,hnc,hd⟩:=id I;have hT:(⟨h,g,d,t,os⟩:ah).TypeIs (.ref f) "function" :=⟨fo,VH,XZ⟩
 unfold ie.«proto.getattr_hooked»;repeat (first | (with_reducible refine d8 hx ?_;rw [hc]) | (with_reducible refine dg hC hn gr hB ?_;rw [XT]) | (with_reducible refine f9 hT Em ?_) | (with_reducible refine f9 hT DD ?_) | (with_reducible refine f9 hT D7 ?_) | wp_step)
 split
 ·rename_i c RH;exact absurd RH (hnc c)
 unfold instanceDict;repeat (first | (with_reducible refine d8 hx ?_;rw [hc]) | with_reducible refine d8 hC ?_ | wp_step)
 have tail:aD (aC prog w) A (do iH name (ef x);byTheClass (some (.ref f)) (some (Value.builtin "function.__get__"))) (fun a s'=>aD (aC prog w) A
      (match a with
      | Found.value v=>ret v
      | Found.missing=>do
       let __do_lift <-bI (ef C) (bB "__getattr__")
       missingOrHook (ef x) (ix name tk) name __do_lift
      | Found.bind g a=>do
       let __do_lift <-bI (ef C) (bB "__getattr__")
       bindWithHook g a (ef x) (ef C) (ix name tk) __do_lift) Q E s') E {heap:=h,gens:=g,drawn:=d,toks:=t,os:=os}:=by
  have cg:iH name (.ref x)=pure ():=by unfold iH;dsimp only;rw [if_neg (by rw [US];exact aJ)]
  rw [cg];repeat (first | (with_reducible refine dg hC hn gr mu ?_;rw [Yv]) | wp_step)
  refine my j6.plain PySem.W.KF.entry_fn (j6.check _ _ _ _ _ _ _ _ ⟨fo,VH,XZ⟩ (PySem.W.KF.args_fn _ _ _) ?_);repeat k_node
  exact hq
 rcases hd with ⟨hd,_⟩ | ⟨dx,ZQ,Rt,Sf⟩
 ·rw [hd];show aD _ _ (if (!false ||!typeHasDict (ef C))=true then pure none else _) _ _ _;rw [if_pos (by rfl)];exact ay (ay tail)
 rw [ZQ];refine ay ?_;show aD _ _ (nsGet dx name) _ _ _;refine wpAny_nsGet (s:=⟨h,g,d,t,os⟩) Sf.ns ?_;rw [hv];exact tail
theorem EI:∀ {expr:Bool} {Q:ag->ah->Prop} (hC:h.get? C=some (hZ nm q C N bs [.type "object"] true sn sub ab col dd k0 k1 k2 k3 k5 newId)) (hn:h.Ns N mN) (hng:mN "__getattribute__" =none) (XT:mN name=some (.ref f)) (VH:h.get? f=some fo) (XZ:fo.cls= .type "function") (Yv:mN "__getattr__" =none) (hB:bI (.type "object") name=pure none) (I:h.Inst x C mA) (hv:mA name=none) (US:(["__module__","__name__","__qualname__","__doc__","__annotations__"]:List Str).contains name=false) (hq:Q (.ref h.objs.size) ⟨h.push (qd f x),g,d,t+1,os⟩),aD (aC prog w) A (mP (.ref x) name expr) Q E ⟨h,g,d,t,os⟩:=by iterate 14
 obtain ⟨o,hx,hc,_⟩:=id I;unfold mP getAttrBy;repeat (first | (with_reducible refine d8 hx ?_;rw [hc]) | (with_reducible refine dg hC hn gr oK ?_;rw [hng]) | wp_step)
 show aD _ _ ((runValue (.builtin "proto.getattr_hooked" ⟨[.ref x,.str name t],[]⟩)).onRaise (noteIf true (.ref x) (.str name t))) _ _ _;refine lE (wpAny_runValue (codeAny_builtin jr (BH hC hn XT VH XZ Yv hB I hv US ?_)));show aD _ _ (kB (.ref h.objs.size)) _ _ _;exact ay hq
end
theorem ES:∃ r,bI (.type "method") "__call__" =pure (some r):=by iterate 0 exact (⟨.builtin "method.__call__",by rw [bM,bp];rfl'⟩)
theorem B3:plainId "iter" =true:=by iterate 0 decide+kernel
theorem Cw:entryFor table "iter" =some ie.«iter» :=by iterate 0 exact (nX (by rfl'))
theorem BA:∀ (a b:ag),checkBuiltinCall "iter" ⟨[a,b],[]⟩=pure ():=by iterate 2 rfl'
section
variable {prog:bY} {w:jl} {A:bf} {E:ag->ah->Prop} {s:ah} {M f a:Addr}
theorem Ei:∀ {sv:ag} {Q:ag->ah->Prop} (hM:s.heap.get? M=some (qd f a)) (hq:Q (.ref s.heap.objs.size) {s with heap:=s.heap.push (rW (.ref M) sv false)}),aD (aC prog w) A (call (.builtin "iter") [.ref M,sv]) Q E s:=by iterate 4
 refine eV (my B3 Cw ?_);rw [BA];refine ay ?_;obtain ⟨r,hr⟩:=ES;obtain ⟨h,g,d,t,os⟩:=s;have hT:(⟨h,g,d,t,os⟩:ah).TypeIs (.ref M) "method" :=⟨_,hM,rfl⟩
 unfold ie.«iter»;repeat (first | (with_reducible refine f9 hT hr ?_) | wp_step)
 exact hq
end
end MP.Lake
namespace MP.Lake
open PySem PyProof.Rows
noncomputable def rt:aX:=(.mk .function [("self",.local),("token",.local),("fiter",.local),("ch",.local),("iter",.globalImplicit)] false false [])
noncomputable def lg (g:G) (i j:Nat) (ln:Int) (cs:List Nat):G:=(g.set j (.sg cs)).set i (.lex ln (some j) [])
theorem AR:∀ {g:G} {i j:Nat} {ln:Int} {cs:List Nat} (hi:i<g.length) (hj:j<g.length) (Rt:j≠i),wF (lg g i j ln cs) i=match cs with | []=>some (.str [],lg g i j ln []) | c::r=>some (.str [c],lg g i j (o8 ln c) r):=by iterate 8
 have e1:(lg g i j ln cs)[i]? =some (.lex ln (some j) []):=by unfold lg;rw [gP (by simpa using hi)]
 have e2:(lg g i j ln cs)[j]? =some (.sg cs):=by unfold lg;rw [kZ (dz Rt),gP hj]
 unfold wF;rw [e1,bz,show zb (.lex ln (some j) [])=some (ln,some j,[]) from rfl,bz,bz,e2,bz,show AO (.sg cs)=some cs from rfl,bz];cases cs with
 | nil=>rfl
 | cons c r=>
  have e3:(lg g i j ln (c::r)).set j (.sg r)=lg g i j ln r:=by unfold lg;rw [List.set_comm _ _ (dz Rt),gZ]
  dsimp only;rw [e3];by_cases hc:c=10
  ·rw [if_pos hc,o8,if_pos hc];unfold lg;rw [gZ]
  ·rw [if_neg hc,o8,if_neg hc]
structure TC where
 i:Nat
 j:Nat
 I:Addr
 M:Addr
 f:Addr
 a:Addr
 u:Tok
 g:G
theorem _root_.Cz.m4:Nonempty TC:=by iterate 0 exact (⟨⟨default,default,default,default,default,default,default,default⟩⟩)
structure TI (J:Cx) (W0:Wd) (s0:ah) (env:Env) (C:TC) (st:St) (ln:Int) (cs:List Nat) (e:Bool) (W:Wd) (s:ah):Prop where
 run:∃ B,Run J W0 s0 B rt env st [] W s
 H:W.H=lg C.g C.i C.j ln cs
 ap:Apart J W s.heap C.I
 it:s.heap.get? C.I=some (if e then rW .none .none true else rW (.ref C.M) (.str "" C.u) false)
 hM:W.F C.M=some (qd C.f C.a)
 fr:C.I∉am env/\s0.heap.get? C.I=none
 as:W.as[C.i]? =some C.a
 lt:C.i<C.g.length/\C.j<C.g.length/\C.j≠C.i
section
variable {J:Cx} {A:bf} {W W0 W':Wd} {s s0 s':ah} {X:List Addr} {env:Env} {C:TC} {st st':St} {ln ln':Int} {cs cs':List Nat} {e:Bool}
theorem TI.ok:∀ (T:TI J W0 s0 env C st ln cs e W s),Qs J W s:=by iterate 1 obtain ⟨_,r⟩:=T.run;exact r.ok
theorem TI.rep:∀ (T:TI J W0 s0 env C st ln cs e W s),Qq J W s.heap rt st env []:=by iterate 1 obtain ⟨_,r⟩:=T.run;exact r.R
theorem TI.tr:∀ (T:TI J W0 s0 env C st ln cs e W s),Qp J [] W0 s0 W s:=by iterate 1 obtain ⟨_,r⟩:=T.run;exact r.tr
theorem TI.expr:∀ (T:TI J W0 s0 env C st ln cs e W s) (t:Qp J [] W s W' s') (h:W'.H=lg C.g C.i C.j ln' cs'),TI J W0 s0 env C st ln' cs' e W' s':=by iterate 3 obtain ⟨B,r⟩:=T.run;exact ⟨⟨B,r.expr t⟩,h,T.ap.keep t,T.ap.at t (by simp) _ T.it,t.le _ _ T.hM,T.fr,t.as _ _ T.as,T.lt⟩
theorem TI.store:∀ {x:Str} {v:ag} {d:D} (T:TI J W0 s0 env C st ln cs e W s) (hx:pP rt x=true) (TH:oS st x=true) (rd:Rd J W.F W.as d v),aD (aC P0 J.w) A (gV env x v) (fun _ s'=>TI J W0 s0 env C (st.withRho ((x,d)::st.ρ)) ln cs e W s') (fun _ _=>False) s:=by iterate 7 obtain ⟨B,r⟩:=T.run;exact af (r.store hx TH rd) (fun _ s2 z0=>by obtain ⟨k,r2⟩:=z0;exact ⟨⟨B,r2⟩,T.H,T.ap.keep k,T.ap.at k T.fr.1 _ T.it,T.hM,T.fr,T.as,T.lt⟩) fun _ _ f=>f
theorem TI.forget:∀ (T:TI J W0 s0 env C st ln cs e W s) (hv:∀ x d,varD rt st' x=some d->varD rt st x=some d) (ho:st'.own=st.own),TI J W0 s0 env C st' ln cs e W s:=by iterate 3 obtain ⟨B,r⟩:=T.run;exact ⟨⟨B,{r with R:=r.R.congr hv ho}⟩,T.H,T.ap,T.it,T.hM,T.fr,T.as,T.lt⟩
theorem Qx.in1:∀ {n:Nat} (h:Qx (n+1) A),Qx n A.in1:=by iterate 2 exact (⟨h.1,by have:=h.2.1;show A.depth+n+60<_;omega,by have:=h.2.2;show A.units+1+8 * n+400<mj;omega⟩)
theorem TI.turn:∀ {Q:Option ag->ah->Prop} {E:ag->ah->Prop} (fx:Fx J) (kl:Kl J) (Qw:Ok J 9) (QE:FnAt J (F0 J) C.f Q0) (T:TI J W0 s0 env C st ln cs false W s) (hA:Qx 13 A) (Xn:cs=[]->∀ W' s',TI J W0 s0 env C st ln [] true W' s'->Q none s') (hit:∀ c r,cs=c::r->∀ W' s' v,TI J W0 s0 env C st (o8 ln c) r false W' s'->Rd J W'.F W'.as (.str [c]) v->Q (some v) s'),aD (aC P0 J.w) A (eF (.ref C.I)) Q E s:=by iterate 10
 obtain ⟨fo,fd,VH,Wu,_⟩:=QE.obj;have hw:=T.ok;have TG:=AR (g:=C.g) (ln:=ln) (cs:=cs) T.lt.1 T.lt.2.1 T.lt.2.2;rw [<-T.H] at TG;cases cs with
 | nil=>
  refine AX hA.1 T.it (hw.sub _ _ T.hM) (hw.QB _ _ VH) Wu (cP (wp fx kl Qw QE TG T.as hw hA.in1) fun r s' z1=>?_);obtain ⟨v,hr,W',k,hg,rv⟩:=z1;subst hr;dsimp only [Rd] at rv;obtain ⟨_,t,rfl⟩:=rv;have T1:=T.expr k hg;refine ⟨t,rfl,T1.it,T1.ok.sub _ _ T1.hM,T1.ok.QB _ _ VH,fun h' kk hI=>Xn rfl W' _ ?_⟩;obtain ⟨B,r⟩:=T1.run;have ap:=T1.ap;have hf:C.I∉am env++[]:=by simpa using T1.fr.1
  exact ⟨⟨_,Run.start r.RY (r.tr.RB (tk:=s'.toks) r.RY T1.fr.2 ⟨ap.1,ap.2.1,ap.2.2.1⟩ kk) (r.R.Tw (tk:=s'.toks) hf kk) r.fr r.Td⟩,T1.H,⟨ap.1,ap.2.1,ap.2.2.1,_,hI⟩,hI,T1.hM,T1.fr,T1.as,T1.lt⟩
 | cons c r=>refine zx T.it (hw.sub _ _ T.hM) (hw.QB _ _ VH) Wu (cP (wp fx kl Qw QE TG T.as hw hA.in1) fun r' s' z2=>?_);obtain ⟨v,hr,W',k,hg,rv⟩:=z2;subst hr;have rv':=rv;dsimp only [Rd] at rv;obtain ⟨_,t,rfl⟩:=rv;have T1:=T.expr k hg;refine ⟨_,t,rfl,fun q=>?_,T1.it,hit c r rfl W' s' _ T1 rv'⟩;have:=congrArg (fun x:Str=>x.cps.size) q;simp at this;exact absurd this (by decide)
end
noncomputable def rK (C:TC) (tok:List Nat):Lake.St:=⟨[("token",.str tok),("fiter",.raw C.I),("self",.loc C.i)],[],none⟩
noncomputable def uL (C:TC) (tok x:List Nat):Lake.St:=⟨[("ch",.str x),("token",.str tok),("fiter",.raw C.I),("self",.loc C.i)],[],none⟩
noncomputable def G4 (p1 p2 p3:Pos) (x:Str):Expr:= .Compare (.Name "ch" p1) [.Eq] [.Constant (.str x) 0 p2] p3
noncomputable def OA (p1 p2 p3 p4:Pos):Expr:= .Compare (.Name "ch" p1) [.In] [.Attribute (.Name "self" p2) "whitespace" p3] p4
noncomputable def P4 (p1 p2 ap cp ps:Pos):Stmt:= .Assign [.Name "ch" p1] (.Call (.Attribute (.Name "self" p2) "_read_char" ap) [] [] cp) ps
noncomputable def E2 (p1 p2 p3:Pos):Stmt:= .AugAssign (.Name "token" p1) .Add (.Name "ch" p2) p3
noncomputable def DA (q1 q2 q3 q4 p1 p2 ap cp ps:Pos):Stmt:= .If (G4 q1 q2 q3 "\\") [P4 p1 p2 ap cp ps] [] q4
theorem OO:∀ {C:TC} {tok x:List Nat} {p1 p2 p3:Pos} {g:G},ceT P0 30 rt (uL C tok x) (G4 p1 p2 p3 "\\") g=some (x==[92],g):=by iterate 7 rfl'
theorem NJ:∀ {C:TC} {tok x:List Nat} {p1 p2 p3:Pos} {g:G},ceT P0 30 rt (uL C tok x) (G4 p1 p2 p3 "\"") g=some (x==[34],g):=by iterate 7 rfl'
theorem FR:∀ (c:Nat),decide (c∈[10,9,13,32])=qE c:=by iterate 1 unfold qE;simp only [aq,aO,or_false,Bool.decide_or,Bool.or_assoc];rfl
theorem MZ:∀ {C:TC} {tok:List Nat} {c:Nat} {p1 p2 p3 p4:Pos} {g:G} {ln:Int} {src:Option Nat} {pb:List D} (e:g[C.i]? =some (.lex ln src pb)),ceT P0 30 rt (uL C tok [c]) (OA p1 p2 p3 p4) g=some (qE c,g):=by iterate 12
 have h:ceE P0 29 rt (uL C tok [c]) (.Attribute (.Name "self" p2) "whitespace" p3) g=some (.str [10,9,13,32],g):=by
  have:ceE P0 29 rt (uL C tok [c]) (.Attribute (.Name "self" p2) "whitespace" p3) g=(g[C.i]?).bind fun o=>(yg "whitespace" o).bind fun r=>some (r,g):=by rfl'
  rw [this,e];rfl
 have:ceT P0 30 rt (uL C tok [c]) (OA p1 p2 p3 p4) g=(ceE P0 29 rt (uL C tok [c]) (.Attribute (.Name "self" p2) "whitespace" p3) g).bind fun x=>(cmp P0 .In (.str [c]) x.1).bind fun b=>some (b,x.2):=by rfl'
 rw [this,h,<-FR];rfl
noncomputable def vA (c:Nat) (cs:List Nat):List Nat:=if c=92 then cs.take 1 else [c]
noncomputable def uB (c:Nat) (cs:List Nat):List Nat:=if c=92 then cs.drop 1 else cs
noncomputable def Fz (ln:Int):List Nat->Int
| []=>ln
| c::_=>o8 ln c
noncomputable def xa (c:Nat) (ln:Int) (cs:List Nat):Int:=if c=92 then Fz ln cs else ln
noncomputable def qA (stop:Nat->Bool):List Nat->List Nat->Int->Bool×List Nat×List Nat×Int
| [],acc,ln=>(false,acc,[],ln)
| c::r,acc,ln=>if stop c then (true,acc,r,o8 ln c)
  else if c=92 then match r with
   | []=>(false,acc,[],o8 ln c)
   | d::r'=>qA stop r' (acc++[d]) (o8 (o8 ln c) d)
  else qA stop r (acc++[c]) (o8 ln c)
theorem rZ:∀ {stop:Nat->Bool} {c:Nat} {r acc:List Nat} {ln:Int},qA stop (c::r) acc ln=if stop c=true then (true,acc,r,o8 ln c) else if c=92 then kP r (false,acc,[],o8 ln c) (fun d r'=>qA stop r' (acc++[d]) (o8 (o8 ln c) d)) else qA stop r (acc++[c]) (o8 ln c):=by iterate 5 cases r<;>rfl'
theorem D8:∀ {stop:Nat->Bool} {c:Nat} {r acc:List Nat} {ln:Int} (h:stop c=false),qA stop (c::r) acc ln=qA stop (uB c r) (acc++vA c r) (xa c (o8 ln c) r):=by iterate 6
 rw [rZ,h];unfold uB vA xa;by_cases hc:c=92
 ·rw [if_neg aJ,if_pos hc,if_pos hc,if_pos hc,if_pos hc];cases r with | nil=>show (false,acc,[],o8 ln c)=(false,acc++[],[],o8 ln c);rw [aS] | cons d r'=>rfl
 ·rw [if_neg aJ,if_neg hc,if_neg hc,if_neg hc,if_neg hc]
theorem K9:∀ (n:Nat) (cs acc:List Nat) (ln:Int),cs.length<=n->(qA (· ==34) cs acc ln).2=tA cs acc ln:=by iterate 0
 intro n;induction n with
 | zero=>intro cs acc ln h;cases cs with | nil=>rfl | cons c r=>cases h
 | succ n Qo=>
  intro cs acc ln h;cases cs with
  | nil=>rfl
  | cons c r=>
   by_cases h1:c=34
   ·rw [rZ,vF,if_pos (by simpa using h1),if_pos h1]
   ·by_cases h2:c=92
    ·rw [rZ,vF,if_neg (by simpa using h1),if_neg h1,if_pos h2,if_pos h2];cases r with | nil=>rfl | cons d r'=>exact Qo r' _ _ (by simp at h;omega)
    ·have e1:qA (· ==34) (c::r) acc ln=qA (· ==34) r (acc++[c]) (o8 ln c):=by
      rw [rZ,if_neg (by simpa using h1),if_neg h2]
     have e2:tA (c::r) acc ln=tA r (acc++[c]) (o8 ln c):=by rw [vF,if_neg h1,if_neg h2]
     rw [e1,e2];exact Qo r _ _ (by simpa using h)
theorem Hl:∀ (n:Nat) (cs acc:List Nat) (ln:Int),cs.length<=n->(qA qE cs acc ln).2=sF cs acc ln:=by iterate 0
 intro n;induction n with
 | zero=>intro cs acc ln h;cases cs with | nil=>rfl | cons c r=>cases h
 | succ n Qo=>
  intro cs acc ln h;cases cs with
  | nil=>rfl
  | cons c r=>
   cases h1:qE c with
   | true=>rw [rZ,vM,if_pos h1,if_pos h1]
   | false=>
    have h1:¬ qE c=true:=by rw [h1];exact aJ
    by_cases h2:c=92
    ·rw [rZ,vM,if_neg h1,if_neg h1,if_pos h2,if_pos h2];cases r with | nil=>rfl | cons d r'=>exact Qo r' _ _ (by simp at h;omega)
    ·have e1:qA qE (c::r) acc ln=qA qE r (acc++[c]) (o8 ln c):=by
      rw [rZ,if_neg h1,if_neg h2]
     have e2:sF (c::r) acc ln=sF r (acc++[c]) (o8 ln c):=by rw [vM,if_neg h1,if_neg h2]
     rw [e1,e2];exact Qo r _ _ (by simpa using h)
section
variable {J:Cx} {A:bf} {W W0 W':Wd} {s s0 s':ah} {X:List Addr} {env:Env} {C:TC} {st st':St} {ln ln':Int} {cs cs' tok:List Nat} {e:Bool}
theorem sK:∀ {sc:aX} {Sh:Qr} (h:∀ p∈Sh,varD sc st p.1=some p.2),∀ x d,varD sc ⟨Sh,[],none⟩ x=some d->varD sc st x=some d:=by iterate 3
 exact (fun x d e=>by
 rcases zK e with ⟨_,e⟩ | ⟨_,e⟩ | ⟨_,e⟩
 ·cases e
 ·exact h _ (al e)
 ·exact h _ (al e))
theorem TI.gi:∀ (T:TI J W0 s0 env C st ln cs e W s),W.H[C.i]? =some (.lex ln (some C.j) []):=by iterate 1 rw [T.H];unfold lg;rw [gP (by simpa using T.lt.1)]
theorem FM:∀ {q1 q2 q3 q4 p1 p2 ap cp ps:Pos} {c:Nat} (Qw:Ok J 30) (hl:(ap.endLine==cp.line)=true) (T:TI J W0 s0 env C (uL C tok [c]) ln cs false W s) (hA:Qx 30 A),aD (aC P0 J.w) A (exec (DA q1 q2 q3 q4 p1 p2 ap cp ps) env) (fun f s'=>f= .next/\∃ W',TI J W0 s0 env C (uL C tok (vA c cs)) (xa c ln cs) (uB c cs) false W' s') (fun _ _=>False) s:=by iterate 14
 unfold DA;refine fC (Ex.into (Qw.t (OO (g:=W.H)) rfl T.ok T.rep hA) fun b W1 s1 k1 z0=>?_);obtain ⟨hb,Ra⟩:=z0;subst hb;have T1:=T.expr k1 (Ra.trans T.H);by_cases hc:c=92
 ·subst hc;rw [if_pos (by simp)];have TG:ceE P0 30 rt (uL C tok [92]) (.Call (.Attribute (.Name "self" p2) "_read_char" ap) [] [] cp) W1.H=some (.str (vA 92 cs),lg C.g C.i C.j (xa 92 ln cs) (uB 92 cs)):=by
   have h1:ceE P0 30 rt (uL C tok [92]) (.Call (.Attribute (.Name "self" p2) "_read_char" ap) [] [] cp) W1.H=(re ((ap.endLine==cp.line)&&true&&true)).bind fun _=>(re (qo W1.H (.loc C.i)==qo W1.H (.loc C.i))).bind fun _=>wF W1.H C.i:=by rfl'
   rw [h1,hl,T1.H,AR T1.lt.1 T1.lt.2.1 T1.lt.2.2];cases cs with | nil=>simp [re,vA,xa,uB,show ∀ l,Fz l []=l from fun _=>rfl] | cons d r=>simp [re,vA,xa,uB,show ∀ l c r,Fz l (c::r)=o8 l c from fun _ _ _=>rfl]
  refine ao (bj (Ex.into (Qw.e TG rfl T1.ok T1.rep hA) fun v W2 s2 k2 z1=>?_) rfl);obtain ⟨Sa,rv⟩:=z1;have T2:=T1.expr k2 Sa;refine af (T2.store (x:="ch") (by decide) rfl rv) (fun _ s3 T3=>?_) fun _ _ f=>f;refine aW ⟨rfl,W2,T3.forget (sK fun p hp=>?_) rfl⟩;simp only [aq,aO,or_false] at hp;rcases hp with rfl | rfl | rfl | rfl<;>rfl'
 ·have hb:(([c]:List Nat)==[92])=false:=by simpa using hc
  rw [hb];unfold vA xa uB;rw [if_neg hc,if_neg hc,if_neg hc];exact aW ⟨rfl,W1,T1⟩
theorem G9:∀ {p1 p2 p3:Pos} {x:List Nat} (T:TI J W0 s0 env C (uL C tok x) ln cs false W s) (QX:(tok++x).length<=lim),aD (aC P0 J.w) A (exec (E2 p1 p2 p3) env) (fun f s'=>f= .next/\∃ W',TI J W0 s0 env C (rK C (tok++x)) ln cs false W' s') (fun _ _=>False) s:=by iterate 6 obtain ⟨v1,h1,r1⟩:=T.rep.vars "token" (.str tok) (by rfl');obtain ⟨v2,h2,r2⟩:=T.rep.vars "ch" (.str x) (by rfl');unfold E2;refine mx (cr h1 T.rep.kind (by decide) (bq (cr h2 T.rep.kind (by decide) ?_) (by decide)));refine Ex.into (wW (X:=[]) (op:= .Add) (d:= .str (tok++x)) (by show E4 (tok++x)=_;unfold E4;rw [if_pos QX]) r1 r2 T.ok) fun v W2 s2 k2 z2=>?_;obtain ⟨Sa,rv⟩:=z2;have T2:=T.expr k2 (Sa.trans T.H);refine af (T2.store (x:="token") (by decide) rfl rv) (fun _ s3 T3=>⟨rfl,W2,T3.forget (sK fun p hp=>?_) rfl⟩) fun _ _ f=>f;simp only [aq,aO,or_false] at hp;rcases hp with rfl | rfl | rfl<;>rfl'
noncomputable def xg (J:Cx) (W0:Wd) (s0:ah) (env:Env) (C:TC):Bool×List Nat×List Nat×Int->Flow->ah->Prop
| (true,acc,rest,ln),f,s'=>∃ W' v,f= .ret v/\Rd J W'.F W'.as (.str acc) v/\W'.H=lg C.g C.i C.j ln rest/\Qp J [] W0 s0 W' s'
| (false,acc,rest,ln),f,s'=>f= .next/\rest=[]/\∃ W',TI J W0 s0 env C (rK C acc) ln [] true W' s'
theorem Aj:∀ {c:Nat} {r:List Nat},(uB c r).length<=r.length/\(vA c r).length+(uB c r).length<=r.length+1:=by iterate 2
 unfold uB vA;by_cases hc:c=92
 ·rw [if_pos hc,if_pos hc];cases r<;>simp<;>omega
 ·rw [if_neg hc,if_neg hc];simp;omega
theorem AV:∀ {te:Expr} {stop:Nat->Bool} {pc pn pr pi q1 q2 q3 q4 p1 p2 ap cp ps a1 a2 a3:Pos} (fx:Fx J) (kl:Kl J) (SH:Ok J 9) (Qw:Ok J 30) (QE:FnAt J (F0 J) C.f Q0) (hte:∀ tok c g ln,g[C.i]? =some (.lex ln (some C.j) [])->ceT P0 30 rt (uL C tok [c]) te g=some (stop c,g)) (hl:(ap.endLine==cp.line)=true) (hA:Qx 30 A) (T:TI J W0 s0 env C (rK C tok) ln cs false W s) (QX:tok.length+cs.length<=lim),bQ (aC P0 J.w) A (.forLoop (.Name "ch" pc) (.ref C.I) [.If te [.Return (some (.Name "token" pn)) pr] [DA q1 q2 q3 q4 p1 p2 ap cp ps] pi,E2 a1 a2 a3] [] env) (fun r s'=>∃ f,r= .ok f/\xg J W0 s0 env C (qA stop cs tok ln) f s') s:=by iterate 28
 refine codeAny_forLoop (fun k s'=>∃ cs' RR ln' W',k=cs'.length+1/\qA stop cs' RR ln'=qA stop cs tok ln/\TI J W0 s0 env C (rK C RR) ln' cs' false W' s'/\RR.length+cs'.length<=lim) ?_ (cs.length+1) ⟨cs,tok,ln,W,rfl,rfl,T,QX⟩;rintro k s1 ⟨cs',RR,ln',W1,rfl,QL,T1,Vj⟩;refine T1.turn fx kl SH QE (hA.le (by omega)) (fun hc W2 s2 T2=>?_) (fun c r hc W2 s2 v T2 rv=>?_)
 ·subst hc;refine aW ⟨_,rfl,?_⟩;rw [<-QL];exact ⟨rfl,rfl,W2,T2⟩
 ·subst hc;refine af (cQ (T2.store (x:="ch") (by decide) rfl rv)) (fun _ s3 T3=>?_) (fun _ _ (f:False)=>f.elim);have T3:TI J W0 s0 env C (uL C RR [c]) (o8 ln' c) r false W2 s3:=T3;refine af (Q:=fun f QP=>match f with
     | .next | .cont=>∃ m,m<(c::r).length+1/\∃ cs' RR ln' W',m=cs'.length+1/\qA stop cs' RR ln'=qA stop cs tok ln/\TI J W0 s0 env C (rK C RR) ln' cs' false W' QP/\RR.length+cs'.length<=lim
     | .brk=>∃ f,(.ok .next:iy)= .ok f/\xg J W0 s0 env C (qA stop cs tok ln) f QP
     | .ret v=>∃ f,(.ok (.ret v):iy)= .ok f/\xg J W0 s0 env C (qA stop cs tok ln) f QP) ?_ (fun _ _ h=>h) (fun _ _ (f:False)=>f.elim)
  refine ao (fC (Ex.into (Qw.t (hte RR c _ _ T3.gi) rfl T3.ok T3.rep hA) fun b W4 s4 k4 z0=>?_));obtain ⟨hb,UE⟩:=z0;subst hb;have T4:=T3.expr k4 (UE.trans T3.H);cases hs:stop c with
  | true=>
   rw [if_pos rfl];obtain ⟨v5,h5,r5⟩:=T4.rep.vars "token" (.str RR) (by rfl');refine ao (cm (bq (cr h5 T4.rep.kind (by decide) ⟨_,rfl,?_⟩) (by decide)));have:qA stop (c::r) RR ln'=(true,RR,r,o8 ln' c):=by rw [rZ,if_pos hs]
   rw [<-QL,this];exact ⟨W4,v5,rfl,r5,T4.H,T4.tr⟩
  | false=>
   rw [if_neg aJ];refine ao (af (FM Qw hl T4 hA) (fun f s5 z1=>?_) fun _ _ f=>f);obtain ⟨hf,W5,T5⟩:=z1;subst hf;refine aW ?_;have hle:=Aj (c:=c) (r:=r);have VV:(RR++vA c r).length+(uB c r).length<=lim:=by rw [aw];simp only [aI] at Vj;omega
   refine ao (af (G9 T5 (by omega)) (fun f s6 z2=>?_) fun _ _ f=>f);obtain ⟨hf,W6,T6⟩:=z2;subst hf;refine aW ⟨(uB c r).length+1,by simp only [aI];omega,uB c r,RR++vA c r,xa c (o8 ln' c) r,W6,rfl,?_,T6,VV⟩;rw [<-QL,D8 hs]
end
noncomputable def sq:List Nat->Int->Bool×List Nat×List Nat×Int
| [],ln=>(false,[],[],ln)
| c::r,ln=>if qE c then sq r (o8 ln c) else if c=34 then qA (· ==34) r [] (o8 ln c) else qA qE (uB c r) (vA c r) (xa c (o8 ln c) r)
theorem Gb:∀ (cs:List Nat) (ln:Int),(sq cs ln).2=tok cs ln:=by iterate 0
 intro cs;induction cs with
 | nil=>intro ln;exact rfl
 | cons c r Qo=>
  intro ln;dsimp only [sq,tok];cases hw:qE c with
  | true=>exact Qo (o8 ln c)
  | false=>
   rw [if_neg aJ,if_neg aJ];by_cases h1:c=34
   ·rw [if_pos h1,if_pos h1];exact K9 _ r [] _ (bN _)
   ·rw [if_neg h1,if_neg h1];unfold uB vA xa;by_cases h2:c=92
    ·rw [if_pos h2,if_pos h2,if_pos h2,if_pos h2];cases r with | nil=>rfl | cons d r'=>exact Hl _ r' _ _ (bN _)
    ·rw [if_neg h2,if_neg h2,if_neg h2,if_neg h2];exact Hl _ r _ _ (bN _)
noncomputable def Lc (pn pr:Pos):Stmt:= .Return (some (.Name "token" pn)) pr
noncomputable def Bo (pc pf pp:Pos) (b:List Stmt):Stmt:= .For (.Name "ch" pc) (.Name "fiter" pf) b [] pp
noncomputable def J4:List Stmt:=[(.If (G4 ⟨144,23,144,25⟩ ⟨144,29,144,32⟩ ⟨144,23,144,32⟩ "\"") [Lc ⟨145,31,145,36⟩ ⟨145,24,145,36⟩] [DA ⟨146,25,146,27⟩ ⟨146,31,146,35⟩ ⟨146,25,146,35⟩ ⟨146,20,147,46⟩ ⟨147,24,147,26⟩ ⟨147,29,147,33⟩ ⟨147,29,147,44⟩ ⟨147,29,147,46⟩ ⟨147,24,147,46⟩] ⟨144,20,147,46⟩),E2 ⟨148,20,148,25⟩ ⟨148,29,148,31⟩ ⟨148,20,148,31⟩]
noncomputable def Ko:List Stmt:=[(.If (OA ⟨154,23,154,25⟩ ⟨154,29,154,33⟩ ⟨154,29,154,44⟩ ⟨154,23,154,44⟩) [Lc ⟨155,31,155,36⟩ ⟨155,24,155,36⟩] [DA ⟨156,25,156,27⟩ ⟨156,31,156,35⟩ ⟨156,25,156,35⟩ ⟨156,20,157,46⟩ ⟨157,24,157,26⟩ ⟨157,29,157,33⟩ ⟨157,29,157,44⟩ ⟨157,29,157,46⟩ ⟨157,24,157,46⟩] ⟨154,20,157,46⟩),E2 ⟨158,20,158,25⟩ ⟨158,29,158,31⟩ ⟨158,20,158,31⟩]
noncomputable def G8:List Stmt:=[(.If (OA ⟨140,15,140,17⟩ ⟨140,21,140,25⟩ ⟨140,21,140,36⟩ ⟨140,15,140,36⟩) [(.Continue ⟨141,16,141,24⟩)] [] ⟨140,12,141,24⟩),
 (.If (G4 ⟨142,15,142,17⟩ ⟨142,21,142,24⟩ ⟨142,15,142,24⟩ "\"") [Bo ⟨143,20,143,22⟩ ⟨143,26,143,31⟩ ⟨143,16,148,31⟩ J4]
  [DA ⟨150,19,150,21⟩ ⟨150,25,150,29⟩ ⟨150,19,150,29⟩ ⟨150,16,151,42⟩ ⟨151,20,151,22⟩ ⟨151,25,151,29⟩ ⟨151,25,151,40⟩ ⟨151,25,151,42⟩ ⟨151,20,151,42⟩,E2 ⟨152,16,152,21⟩ ⟨152,25,152,27⟩ ⟨152,16,152,27⟩,Bo ⟨153,20,153,22⟩ ⟨153,26,153,31⟩ ⟨153,16,158,31⟩ Ko] ⟨142,12,158,31⟩)]
noncomputable def Nh (p q:Pos):Expr:=(.Attribute (.Name "self" p) "pushback" q)
noncomputable def SE:Fn:=⟨["self"],rt,
 [(.If (Nh ⟨135,11,135,15⟩ ⟨135,11,135,24⟩) [(.Return (some (.Call (.Attribute (Nh ⟨136,19,136,23⟩ ⟨136,19,136,32⟩) "pop" ⟨136,19,136,36⟩) [(.Constant (.int 0) 0 ⟨136,37,136,38⟩)] [] ⟨136,19,136,39⟩)) ⟨136,12,136,39⟩)] [] ⟨135,8,136,39⟩),
  (.Assign [(.Name "token" ⟨137,8,137,13⟩)] (.Constant (.str "") 0 ⟨137,16,137,18⟩) ⟨137,8,137,18⟩),
  (.Assign [(.Name "fiter" ⟨138,8,138,13⟩)] (.Call (.Name "iter" ⟨138,16,138,20⟩) [(.Attribute (.Name "self" ⟨138,21,138,25⟩) "_read_char" ⟨138,21,138,36⟩),(.Constant (.str "") 0 ⟨138,38,138,40⟩)] [] ⟨138,16,138,41⟩) ⟨138,8,138,41⟩),
  Bo ⟨139,12,139,14⟩ ⟨139,18,139,23⟩ ⟨139,8,158,31⟩ G8,Lc ⟨159,15,159,20⟩ ⟨159,8,159,20⟩]⟩
theorem Bf:vZ (pC P0 "_netrclex") "get_token" =some SE:=by iterate 0 rfl'
section
variable {J:Cx} {A:bf} {W W0 W':Wd} {s s0 s':ah} {X:List Addr} {env:Env} {C:TC} {st st':St} {ln ln':Int} {cs cs' tok:List Nat} {e:Bool}
theorem TI.over:∀ {Q:Option ag->ah->Prop} {E:ag->ah->Prop} (T:TI J W0 s0 env C st ln cs true W s) (hA:A.handled=none) (h:∀ s',TI J W0 s0 env C st ln cs true W s'->Q none s'),aD (aC P0 J.w) A (eF (.ref C.I)) Q E s:=by iterate 5 exact (zz hA T.it fun h' k=>h _ (T.expr (W':=W) ((Qp.grow (X:=[]) (s':={s with heap:=h'}) T.ok (fun a o _ e=>k a o e) (fun a o e=>⟨o,k a o e⟩) (by simp) rfl rfl)) T.H))
theorem Cj:∀ {pc pf pp:Pos} {b:List Stmt} {Q:Flow->ah->Prop} (T:TI J W0 s0 env C (rK C tok) ln cs e W s) (h:bQ (aC P0 J.w) A (.forLoop (.Name "ch" pc) (.ref C.I) b [] env) (fun r s'=>∃ f,r= .ok f/\Q f s') s),aD (aC P0 J.w) A (exec (Bo pc pf pp b) env) Q (fun _ _=>False) s:=by iterate 7 obtain ⟨v,h1,r1⟩:=T.rep.vars "fiter" (.raw C.I) (by rfl');dsimp only [Rd] at r1;subst r1;unfold Bo;refine md (bq (cr h1 T.rep.kind (by decide) ?_) (by decide)) (fun _=>rfl);refine Iu (Mv:=if e then .none else .ref C.M) (sv:=if e then .none else .str "" C.u) (e:=e) (by rw [T.it];cases e<;>rfl) ?_;exact cP h fun r s' z0=>by obtain ⟨f,hr,hq⟩:=z0;subst hr;exact hq
theorem Np:∀ {pc:Pos} (fx:Fx J) (kl:Kl J) (SH:Ok J 9) (Qw:Ok J 30) (QE:FnAt J (F0 J) C.f Q0) (hA:Qx 30 A) (T:TI J W0 s0 env C (rK C tok) ln cs false W s) (QX:tok.length+cs.length<=lim),bQ (aC P0 J.w) A (.forLoop (.Name "ch" pc) (.ref C.I) J4 [] env) (fun r s'=>∃ f,r= .ok f/\xg J W0 s0 env C (qA (· ==34) cs tok ln) f s') s:=by iterate 9
 exact (AV fx kl SH Qw QE (fun tok c g ln _=>by
  have:=NJ (C:=C) (tok:=tok) (x:=[c]) (p1:=⟨144,23,144,25⟩) (p2:=⟨144,29,144,32⟩) (p3:=⟨144,23,144,32⟩) (g:=g);rw [this];congr 2;by_cases hc:c=34
  ·subst hc;rfl
  ·rw [show (([c]:List Nat)==[34])=false by simpa using hc,show (c==34)=false by simpa using hc]) rfl hA T QX)
theorem Ot:∀ {pc:Pos} (fx:Fx J) (kl:Kl J) (SH:Ok J 9) (Qw:Ok J 30) (QE:FnAt J (F0 J) C.f Q0) (hA:Qx 30 A) (T:TI J W0 s0 env C (rK C tok) ln cs false W s) (QX:tok.length+cs.length<=lim),bQ (aC P0 J.w) A (.forLoop (.Name "ch" pc) (.ref C.I) Ko [] env) (fun r s'=>∃ f,r= .ok f/\xg J W0 s0 env C (qA qE cs tok ln) f s') s:=by iterate 9 exact (AV fx kl SH Qw QE (fun tok c g ln e=>MZ e) rfl hA T QX)
theorem Nj:∀ {pc:Pos} (fx:Fx J) (kl:Kl J) (SH:Ok J 9) (Qw:Ok J 30) (QE:FnAt J (F0 J) C.f Q0) (hA:Qx 30 A) (T:TI J W0 s0 env C (rK C []) ln cs false W s) (QX:cs.length<=lim),bQ (aC P0 J.w) A (.forLoop (.Name "ch" pc) (.ref C.I) G8 [] env) (fun r s'=>∃ f,r= .ok f/\xg J W0 s0 env C (sq cs ln) f s') s:=by iterate 9
 refine codeAny_forLoop (fun k s'=>(∃ cs' ln' W',k=cs'.length+1/\sq cs' ln'=sq cs ln/\TI J W0 s0 env C (rK C []) ln' cs' false W' s'/\cs'.length<=lim)\/(k=0/\∃ acc ln' W',sq cs ln=(false,acc,[],ln')/\TI J W0 s0 env C (rK C acc) ln' [] true W' s'))
  ?_ (cs.length+1) (.inl ⟨cs,ln,W,rfl,rfl,T,QX⟩)
 rintro k s1 (⟨cs',ln',W1,rfl,QL,T1,Vj⟩ | ⟨rfl,acc,ln',W1,QL,T1⟩)
 ·refine T1.turn fx kl SH QE (hA.le (by omega)) (fun hc W2 s2 T2=>?_) (fun c r hc W2 s2 v T2 rv=>?_)
  ·subst hc;refine aW ⟨_,rfl,?_⟩;rw [<-QL];exact ⟨rfl,rfl,W2,T2⟩
  ·subst hc;refine af (cQ (T2.store (x:="ch") (by decide) rfl rv)) (fun _ s3 T3=>?_) (fun _ _ (f:False)=>f.elim);have T3:TI J W0 s0 env C (uL C [] [c]) (o8 ln' c) r false W2 s3:=T3;generalize hI:(fun (k:Nat) (s':ah)=>(∃ cs' ln' W',k=cs'.length+1/\sq cs' ln'=sq cs ln/\TI J W0 s0 env C (rK C []) ln' cs' false W' s'/\cs'.length<=lim)\/(k=0/\∃ acc ln' W',sq cs ln=(false,acc,[],ln')/\TI J W0 s0 env C (rK C acc) ln' [] true W' s'))=I
   -- WE way on from an inner walk
   have leave:∀ z f s4,sq cs ln=z->xg J W0 s0 env C z f s4->(match f with
     | .next | .cont=>∃ m,m<(c::r).length+1/\I m s4
     | .brk=>∃ f,(.ok .next:iy)= .ok f/\xg J W0 s0 env C (sq cs ln) f s4
     | .ret v=>∃ f,(.ok (.ret v):iy)= .ok f/\xg J W0 s0 env C (sq cs ln) f s4):=fun z f s4 hz h=>by
    obtain ⟨b,acc,rest,l⟩:=z;cases b with | true=>obtain ⟨W5,v5,rfl,h5⟩:=h;refine ⟨_,rfl,?_⟩;rw [hz];exact ⟨W5,v5,rfl,h5⟩ | false=>obtain ⟨rfl,rfl,W5,T5⟩:=h;refine ⟨0,Nat.succ_pos _,?_⟩;rw [<-hI];exact .inr ⟨rfl,acc,l,W5,hz,T5⟩
   refine af (Q:=fun f QP=>match f with
     | .next | .cont=>∃ m,m<(c::r).length+1/\I m QP
     | .brk=>∃ f,(.ok .next:iy)= .ok f/\xg J W0 s0 env C (sq cs ln) f QP
     | .ret v=>∃ f,(.ok (.ret v):iy)= .ok f/\xg J W0 s0 env C (sq cs ln) f QP) ?_ (fun _ _ h=>by rw [<-hI] at h;exact h) (fun _ _ (f:False)=>f.elim)
   simp only [aI] at Vj;unfold G8;refine ao (fC (Ex.into (Qw.t (MZ T3.gi) rfl T3.ok T3.rep hA) fun b W4 s4 k4 z1=>?_));obtain ⟨hb,UE⟩:=z1;subst hb;have T4:=T3.expr k4 (UE.trans T3.H);cases hs:qE c with
   | true=>
    rw [if_pos rfl];refine ao (wpAny_Continue ?_);refine ⟨r.length+1,by simp,?_⟩;rw [<-hI];refine .inl ⟨r,o8 ln' c,W4,rfl,?_,T4.forget (sK fun p hp=>?_) rfl,by omega⟩
    ·rw [<-QL];conv=>rhs;dsimp only [sq]
     rw [hs];rfl
    ·simp only [aq,aO,or_false] at hp;rcases hp with rfl | rfl | rfl<;>rfl'
   | false=>
    rw [if_neg aJ];refine aW ?_;refine ao (fC (Ex.into (Qw.t (NJ (g:=W4.H)) rfl T4.ok T4.rep hA) fun b W5 s5 k5 z2=>?_));obtain ⟨hb,VZ⟩:=z2;subst hb;have T5:=T4.expr k5 (VZ.trans T4.H);by_cases hc:c=34
    ·rw [show (([c]:List Nat)==[34])=true by simp [hc],if_pos rfl];have T6:TI J W0 s0 env C (rK C []) (o8 ln' c) r false W5 s5:=T5.forget (sK fun p hp=>by
      simp only [aq,aO,or_false] at hp;rcases hp with rfl | rfl | rfl<;>rfl') rfl
     have hz:sq cs ln=qA (· ==34) r [] (o8 ln' c):=by
      rw [<-QL];conv=>lhs;dsimp only [sq]
      rw [hs,if_neg aJ,if_pos hc]
     refine ao (af (Cj T6 (Np fx kl SH Qw QE hA T6 (by simp;omega))) (fun f s7 h=>?_) fun _ _ f=>f);have h2:=leave _ f s7 hz h;cases f with | next=>exact aW (aW h2) | cont=>exact h2 | brk=>exact h2 | ret v=>exact h2
    ·rw [show (([c]:List Nat)==[34])=false by simpa using hc,if_neg aJ];have hz:sq cs ln=qA qE (uB c r) (vA c r) (xa c (o8 ln' c) r):=by
      rw [<-QL];conv=>lhs;dsimp only [sq]
      rw [hs,if_neg aJ,if_neg hc]
     have hle:=Aj (c:=c) (r:=r);refine ao (af (FM Qw rfl T5 hA) (fun f s6 z3=>?_) fun _ _ f=>f);obtain ⟨hf,W6,T6⟩:=z3;subst hf;refine ao (af (G9 T6 (by simp;omega)) (fun f s7 z4=>?_) fun _ _ f=>f);obtain ⟨hf,W7,T7⟩:=z4;subst hf;refine ao (af (Cj T7 (Ot fx kl SH Qw QE hA T7 (by simp;omega))) (fun f s8 h=>?_) fun _ _ f=>f);have h2:=leave _ f s8 hz h;cases f with | next=>exact aW (aW h2) | cont=>exact h2 | brk=>exact h2 | ret v=>exact h2
 ·refine T1.over hA.1 fun s2 T2=>aW ⟨_,rfl,?_⟩;rw [QL];exact ⟨rfl,rfl,W1,T2⟩
end
section
variable {J:Cx} {A:bf} {W W0 W':Wd} {s s0 s':ah} {X:List Addr} {sc:aX} {st:St} {env:Env}
theorem CH:∀ {g:G} {i:Nat} {m:MO} (h:g[i]? =some m),g.set i m=g:=by iterate 4
 apply iP;intro k;rw [gq];split
 ·rename_i q;subst q;rw [h,if_pos (ak.mp h).1]
 ·rfl
theorem A6:∀ {i:Nat} {a:Addr} {ln:Int} {src:Option Nat} {pb:List D} {p q:Pos} {Q:Bool->ah->Prop} (kl:Kl J) (R:Qq J W s.heap sc st env []) (hv:varD sc st "self" =some (.loc i)) (ha:W.as[i]? =some a) (h1:W.H[i]? =some (.lex ln src pb)) (hw:Qs J W s) (hq:∀ tk,Q (!pb.isEmpty) {s with toks:=tk}),aD (aC P0 J.w) A (jT (Nh p q) env (eval (Nh p q) env)) Q (fun _ _=>False) s:=by iterate 15
 obtain ⟨v,Sj,r1⟩:=R.vars "self" _ hv;have Ul:=tF ha r1;subst Ul;obtain ⟨dA,pA,iv,t,u,vs,hf,Ue,UR,e1,hd,e4,⟨o,n,e5,c5,d5,dt5⟩,e6,e8,hI⟩:=pR hw h1 ha;have Ru:vs.size=pb.length:=by rw [<-e6.length,bA]
 unfold Nh;refine dP (ui kl Sj R.kind (by decide) hI (by rfl) rfl (by decide) qR hw ?_) rfl;refine nA (items:=vs) ⟨o,e5,c5,n,dt5⟩ ?_ ?_
 ·rw [Ru];unfold lim at UR;omega
 ·have:vs.isEmpty=pb.isEmpty:=by
   unfold Array.isEmpty;rw [Ru];cases pb<;>simp
  rw [this];exact hq _
theorem JX:∀ {f:Addr} {i:Nat} {ln:Int} {src:Option Nat} {d:D} {r:List D} {a:Addr} (fx:Fx J) (kl:Kl J) (QE:FnAt J (F0 J) f SE) (h1:W.H[i]? =some (.lex ln src (d::r))) (ha:W.as[i]? =some a) (hw:Qs J W s) (hA:Qx 2 A),Ex J A (call (.ref f) [.ref a]) [] W s (li J d (W.H.set i (.lex ln src r))):=by iterate 14
 have R0:Rd J W.F W.as (.loc i) (.ref a):=by dsimp only [Rd];exact ⟨a,rfl,ha⟩
 refine sG (ds:=[.loc i]) fx QE rfl (by have:=hA.2.1;omega) (by dsimp only [Qt];exact ⟨_,_,rfl,R0,rfl⟩) hw fun env Ql R=>?_;show aD _ _ (gg SE.body env) _ _ _;unfold SE;refine ao (fC (A6 kl R.R (by rfl') ha h1 R.ok fun tk=>?_));rw [if_pos (by rfl)];have R2:=R.expr (Qp.toks (X:=[]) (tk:=tk) R.ok);obtain ⟨v1,Sj,r1⟩:=R2.R.vars "self" (.loc i) (by rfl');have Ul:=tF ha r1;subst Ul;obtain ⟨dA,pA,iv,t,u,vs,hf,Ue,UR,e1,hd,e4,e5,e6,e8,hI⟩:=pR R2.ok h1 ha;refine ao (cm ?_);rw [jj];refine ae (ui kl Sj R2.R.kind (by decide) hI (by rfl) rfl (by decide) qR R2.ok (ae (bt ?_)));obtain ⟨o,n,eo,co,dO,dt⟩:=id e5;refine yG gE j7 (o:=o) eo co dO rfl (by decide) rfl ?_;refine aR (bO ?_) rfl;refine aZ ?_;dsimp only [Qt] at e6;obtain ⟨v,vr,UQ,rv,Zs⟩:=e6;have Ru:vs.size=(d::r).length:=by have:=congrArg fj UQ;rw [bA] at this;rw [this];simp [Zs.length]
 have p5:bS ({Ql with toks:=tk+1+1}:ah).heap pA vs:=e5;refine af (Ax p5 UQ (by rw [Ru];exact UR)) (fun w s2 z0=>?_) fun _ _ f=>f;obtain ⟨hw2,hs⟩:=z0;subst hw2;have R3:=R2.expr (Qp.toks (X:=[]) (tk:=tk+1+1) R2.ok);have k:=G6 (X:=[]) (pb':=r) R3.ok h1 ha hf (by simp at UR;omega) hs (by simpa using Zs);exact ⟨_,R3.tr.Qn k,rfl,rv⟩
theorem Bz:∀ {x m:Str} {xp ap:Pos} {a:Addr} {mA:Str->Option ag} {fn:Fn} {Q:ag->ah->Prop} {E:ag->ah->Prop} (kl:Kl J) (hf:vZ (pC P0 "_netrclex") m=some fn) (hv:RG s.heap env x (.ref a)) (hk:env.scope.kind= .function) (hx:mt x=true) (hI:s.heap.Inst a J.cls mA) (hm:mA m=none) (hB:bI (.type "object") m=pure none) (US:(["__module__","__name__","__qualname__","__doc__","__annotations__"]:List Str).contains m=false) (hw:Qs J W s) (hq:∀ f,FnAt J (F0 J) f fn->Q (.ref s.heap.objs.size) {s with heap:=s.heap.push (qd f a),toks:=s.toks+1}),aD (aC P0 J.w) A (eval (.Attribute (.Name x xp) m ap) env) Q E s:=by iterate 20 rw [jk,p0];refine ae (bq (cr hv hk hx ?_) (oP hx).1);obtain ⟨N,mN,hc,h0,UG⟩:=kl.ex;obtain ⟨f,ob,Yy,QE,ho,Sr⟩:=UG m fn hf;have Ua:=hw.QB;have hh:=hq f QE;obtain ⟨Wo,g,d,t,os⟩:=s;have X:=hc Wo Ua;obtain ⟨nm,q,bs,sn,sub,col,dd,k0,k1,k2,k3,k5,hC⟩:=X.obj;refine ae (bt (ae (bu (EI hC X.ns (h0 _ (by decide)) Yy (Ua _ _ ho) Sr (h0 _ (by decide)) hB hI hm US ?_))));exact ae (ay (ay hh))
theorem I5:∀ {f:Addr} {i j:Nat} {ln:Int} {cs:List Nat} {a:Addr} (fx:Fx J) (kl:Kl J) (SH:Ok J 9) (Qw:Ok J 30) (QE:FnAt J (F0 J) f SE) (h1:W.H[i]? =some (.lex ln (some j) [])) (h2:W.H[j]? =some (.sg cs)) (ha:W.as[i]? =some a) (hw:Qs J W s) (hA:Qx 34 A),Ex J A (call (.ref f) [.ref a]) [] W s (li J (.str (tok cs ln).1) ((W.H.set j (.sg (tok cs ln).2.1)).set i (.lex (tok cs ln).2.2 (some j) []))):=by iterate 16
 have R0:Rd J W.F W.as (.loc i) (.ref a):=by dsimp only [Rd];exact ⟨a,rfl,ha⟩
 refine sG (ds:=[.loc i]) fx QE rfl (by have:=hA.2.1;omega) (by dsimp only [Qt];exact ⟨_,_,rfl,R0,rfl⟩) hw fun env Ql R=>?_;have Q4:Qx 33 (A.deeper env):=hA.deeper;show aD _ _ (gg SE.body env) _ _ _;unfold SE;refine ao (fC (A6 kl R.R (by rfl') ha h1 R.ok fun tk=>?_));rw [if_neg (by simp)];refine aW ?_;have R2:=R.expr (Qp.toks (X:=[]) (tk:=tk) R.ok)
 -- token
 refine ao (bj (cK ?_) rfl);have R3:=R.expr (Qp.toks (X:=[]) (tk:=tk+1) R.ok);refine af (R3.store (x:="token") (v:= .str "" tk) (d:= .str []) (by decide) rfl (by dsimp only [Rd];exact ⟨by simp,tk,rfl⟩)) (fun _ s4 z0=>?_) fun _ _ f=>f;obtain ⟨_,R4⟩:=z0
 -- fiter
 obtain ⟨v1,Sj,r1⟩:=R4.R.vars "self" (.loc i) (by rfl');have Ul:=tF ha r1;subst Ul;obtain ⟨dA,pA,iv,t,u,vs,hf,Ue,UR,e1,hd,e4,e5,e6,e8,hI⟩:=pR R4.ok h1 ha;have cf:=pB fx (f:="iter") (by decide);refine ao (bj (bH (bk R4.R.kind (R4.R.global (by rfl')) (cf.1.load R4.R R4.ok ?_) (by decide))) rfl);refine pk (first:=[]) cf rfl ?_;refine aR (Bz kl zj Sj R4.R.kind (by decide) hI (by rfl) xP (by decide) R4.ok fun fr S6=>?_) rfl;have k5:=Qp.Tv (X:=[]) (tk:=s4.toks+1+1) R4.ok (qd fr a);have hM5:(W.Q8 s4.heap.objs.size (qd fr a)).F s4.heap.objs.size=some (qd fr a):=oT _ _ _;refine aR (cK ?_) rfl;refine aZ ⟨k5.ok.QB,?_⟩;have hMs:(s4.heap.push (qd fr a)).get? s4.heap.objs.size=some (qd fr a):=ax _ rfl;refine Ei (M:=s4.heap.objs.size) (f:=fr) (a:=a) hMs ?_;have k6:=Qp.push (X:=[]) (tk:=s4.toks+1+1) k5.ok (rW (.ref s4.heap.objs.size) (.str "" (s4.toks+1)) false);have hIn:(s4.heap.push (qd fr a)).get? (s4.heap.push (qd fr a)).objs.size=none:=bv _;have nI:=k5.ok.QQ hIn;have Vx:((s4.heap.push (qd fr a)).push (rW (.ref s4.heap.objs.size) (.str "" (s4.toks+1)) false)).get? (s4.heap.push (qd fr a)).objs.size=some (rW (.ref s4.heap.objs.size) (.str "" (s4.toks+1)) false):=ax _ rfl;have R5:=R4.expr (k5.Qn k6);have tr5:=(R4.expr k5).tr;have ZW:s.heap.get? (s4.heap.push (qd fr a)).objs.size=none:=tr5.Qy hIn;have Y6:(s4.heap.push (qd fr a)).objs.size∉am env++[]:=(R4.expr k5).Q2 hIn;have QY:Apart J (W.Q8 s4.heap.objs.size (qd fr a)) ((s4.heap.push (qd fr a)).push (rW (.ref s4.heap.objs.size) (.str "" (s4.toks+1)) false)) (s4.heap.push (qd fr a)).objs.size:=⟨nI.1,nI.2.1,nI.2.2,_,Vx⟩
 refine af (R5.store (x:="fiter") (d:= .raw (s4.heap.push (qd fr a)).objs.size) (by decide) rfl (by dsimp only [Rd])) (fun _ s6 z1=>?_) fun _ _ f=>f;obtain ⟨k7,R6⟩:=z1
 -- WE walk
 have Y5:(s4.heap.push (qd fr a)).objs.size∉am env:=fun h=>Y6 (aE _ h);have Rt:=CP h1 h2;have hγ:(W.Q8 s4.heap.objs.size (qd fr a)).H=lg W.H i j ln cs:=by show W.H=_;unfold lg;rw [CH h2,CH h1]
 have T:TI J W s env ⟨i,j,(s4.heap.push (qd fr a)).objs.size,s4.heap.objs.size,fr,a,s4.toks+1,W.H⟩ (rK ⟨i,j,(s4.heap.push (qd fr a)).objs.size,s4.heap.objs.size,fr,a,s4.toks+1,W.H⟩ []) ln cs false (W.Q8 s4.heap.objs.size (qd fr a)) s6:=by refine TI.forget ⟨⟨_,R6⟩,hγ,QY.keep k7,QY.at k7 Y5 _ Vx,hM5,⟨Y5,ZW⟩,ha,(ak.mp h1).1,(ak.mp h2).1,Rt⟩ (sK fun p hp=>?_) rfl;simp only [aq,aO,or_false] at hp;rcases hp with rfl | rfl | rfl<;>rfl'
 have X0:cs.length<=lim:=by
  obtain ⟨_,_,_,_,_,h,_⟩:=sU (v:= .ref (W.as[j]?.getD 0)) hw h2 (by
   have hj:j<W.as.length:=by rw [hw.Rg];exact (ak.mp h2).1
   dsimp only [Rd];exact ⟨_,rfl,by rw [au hj];rfl⟩)
  exact h
 have Yl:=Gb cs ln;refine ao (af (Cj T (Nj fx kl SH Qw S6 (Q4.le (by omega)) T X0)) (fun f s7 h=>?_) fun _ _ f=>f);revert h Yl;obtain ⟨b,acc,rest,l⟩:=sq cs ln;intro Yl h;have q1:(tok cs ln).1=acc:=by rw [<-Yl]
 have q2:(tok cs ln).2.1=rest:=by rw [<-Yl]
 have q3:(tok cs ln).2.2=l:=by rw [<-Yl]
 rw [q1,q2,q3];cases b with | true=>obtain ⟨W8,v8,rfl,r8,g8,t8⟩:=h;exact ⟨W8,t8,g8,r8⟩ | false=>obtain ⟨rfl,rfl,W8,T8⟩:=h;obtain ⟨v9,h9,r9⟩:=T8.rep.vars "token" (.str acc) (by rfl');refine ao (cm (bq (cr h9 T8.rep.kind (by decide) ?_) (by decide)));exact ⟨W8,T8.tr,T8.H,r9⟩
end
section
variable {J:Cx} {A:bf} {W W0 W':Wd} {s s0 s':ah} {n:Nat}
theorem yu:∀ {g g2:G} {i:Nat} {d:D} (h:w0 g i=some (d,g2)),(∃ ln src r,g[i]? =some (.lex ln src (d::r))/\g2=g.set i (.lex ln src r))\/
  (∃ ln j cs,g[i]? =some (.lex ln (some j) [])/\g[j]? =some (.sg cs)/\d= .str (tok cs ln).1/\g2=(g.set j (.sg (tok cs ln).2.1)).set i (.lex (tok cs ln).2.2 (some j) [])):=by iterate 5
 replace h:=qO h;obtain ⟨o,e,⟨ln,src,pb⟩,h1,h⟩:=h;cases sS h1;cases pb with | cons t r=>cases h;exact .inl ⟨ln,src,r,e,rfl⟩ | nil=>replace h:=vK h;obtain ⟨j,h2,o',e2,cs,h3,h⟩:=h;cases (show src=some j from h2);cases sJ h3;cases h;exact .inr ⟨ln,j,cs,e,e2,rfl,rfl⟩
theorem MX:∀ (fx:Fx J) (kl:Kl J) (ok9:10<=n->Ok J 9) (aax:40<=n->Ok J 30),Lx J n:=by iterate 4
 exact {
  attr:=fun h1 h2 h3 hw _=>Jg kl h1 h2 h3 hw
  Te:=by
   intro m i ds g1 d g2 A W s o apos pos env ov k trees h XU Vk r hw hA hp hk hl ht;by_cases VX:m="get_token"
   ·subst VX;have hn:40<=n:=XU;rcases xe h with ⟨rfl,⟨_,h1⟩ | ⟨q,_⟩⟩ | ⟨d1,_,⟨q,_⟩ | q⟩
    ·rcases yu h1 with ⟨ln,src,r',e1,rfl⟩ | ⟨ln,j,cs,e1,e2,rfl,rfl⟩
     ·refine uv kl Bf (fun _ _ _ _=>by rfl) AE ⟨_,_,_,e1⟩ Vk r hw hp hk hl ht fun f a W1 s1 vs QE hg ha rv RT=>?_;rw [sV rv];subst hg;exact JX fx kl QE e1 ha RT (hA.le (by omega))
     ·refine uv kl Bf (fun _ _ _ _=>by rfl) AE ⟨_,_,_,e1⟩ Vk r hw hp hk hl ht fun f a W1 s1 vs QE hg ha rv RT=>?_;rw [sV rv];subst hg;exact I5 fx kl (ok9 (by omega)) (aax hn) QE e1 e2 ha RT (hA.le (by omega))
    ·exact absurd q (by decide)
    ·exact absurd q (by decide)
    ·exact absurd q (by decide)
   ·exact Hf fx kl ok9 VX h XU Vk r hw hA hp hk hl ht}
theorem Mm:∀ (fx:Fx J) (kl:Kl J) (sp4:∀ n,30<=n->Ok J 9->Z7 J n) (gen:∀ n,TO J n->pL J (n+1)) (TM:pL J 0) (n:Nat),Lx J n/\Sp J n:=by iterate 6 induction n using Nat.strongRecOn with | _ n ih=>exact ⟨MX fx kl (fun h=>(zN fx gen TM 9 fun m hm=>ih m (by omega)).1) fun h=>(zN fx gen TM 30 fun m hm=>ih m (by omega)).1,MM fx fun h=>sp4 n h (zN fx gen TM 9 fun m hm=>ih m (by omega)).1⟩
theorem K8:∀ (fx:Fx J) (kl:Kl J) (sp4:∀ n,30<=n->Ok J 9->Z7 J n) (gen:∀ n,TO J n->pL J (n+1)) (TM:pL J 0) (n:Nat),Ok J n/\TO J n/\wh J n/\pL J n:=by iterate 6 exact (zN fx gen TM n fun m _=>Mm fx kl sp4 gen TM m)
end
noncomputable def initFn:Fn:=⟨["self","fp"],(.mk .function [("self",.local),("fp",.local)] false false []),
 [(.Assign [(.Attribute (.Name "self" ⟨123,8,123,12⟩) "lineno" ⟨123,8,123,19⟩)] (.Constant (.int 1) 0 ⟨123,22,123,23⟩) ⟨123,8,123,23⟩),
  (.Assign [(.Attribute (.Name "self" ⟨124,8,124,12⟩) "instream" ⟨124,8,124,21⟩)] (.Name "fp" ⟨124,24,124,26⟩) ⟨124,8,124,26⟩),
  (.Assign [(.Attribute (.Name "self" ⟨125,8,125,12⟩) "whitespace" ⟨125,8,125,23⟩)] (.Constant (.str "\n\t\r ") 0 ⟨125,26,125,35⟩) ⟨125,8,125,35⟩),
  (.Assign [(.Attribute (.Name "self" ⟨126,8,126,12⟩) "pushback" ⟨126,8,126,21⟩)] (.List [] ⟨126,24,126,26⟩) ⟨126,8,126,26⟩)]⟩
theorem D4:vZ (pC P0 "_netrclex") "__init__" =some initFn:=by iterate 0 rfl'
section
variable {J:Cx} {A:bf} {W W0 W':Wd} {s s0 s1 s':ah} {sc:aX} {st:St} {env:Env} {x dx:Addr} {mA:Str->Option ag}
structure IS (J:Cx) (W:Wd) (s1:ah) (sc:aX) (st:St) (env:Env) (x dx:Addr) (mA:Str->Option ag) (s:ah):Prop where
 er:Qq J W s.heap sc st env []
 tr:Qp J [dx] W s1 W s
 ob:∃ ob,s.heap.get? x=some ob/\ob.cls= .ref J.cls/\ob.dict=some dx/\∀ c:mv,ob.data≠ .cls c
 ns:s.heap.Ns1 dx mA
 ne:dx≠x
 nf:dx∉am env
 Xz:W.F dx=none/\dx∉J.T/\dx∉W.QK.flatten
 xN:W.F x=none/\x∉J.T/\x∉W.QK.flatten
theorem IS.expr:∀ (I:IS J W s1 sc st env x dx mA s) (t:Qp J [] W s W s'),IS J W s1 sc st env x dx mA s':=by iterate 2 obtain ⟨ob,o1,o2⟩:=I.ob;exact ⟨I.er.QG t,I.tr.Qn t,⟨ob,t.keep _ _ I.xN.2.1 I.xN.2.2 (by simp) o1,o2⟩,Ns1.keep I.ns fun o e=>t.keep _ _ I.Xz.2.1 I.Xz.2.2 (by simp) e,I.ne,I.nf,I.Xz,I.xN⟩
theorem IS.set:∀ {name:Str} {v:ag} {ns:List Str} (kl:Kl J) (I:IS J W s1 sc st env x dx mA s) (hn:name∈Rk) (hB:bI (.type "object") name=pure none) (hwi:gY mA ns) (Ru:ns.length<=dw),aD (aC P0 J.w) A (setAttr (.ref x) name v) (fun _ s'=>IS J W s1 sc st env x dx (fun y=>if y=name then some v else mA y) s') (fun _ _=>False) s:=by iterate 9
 obtain ⟨N,mN,hc,h0,_⟩:=kl.ex;obtain ⟨ob,o1,o2,o3,o4⟩:=I.ob;have hw:=I.tr.ok;have Sf:=I.ns;have I0:=I;obtain ⟨hp,g,d,tk,os⟩:=s;have X:=hc hp hw.QB;obtain ⟨nm,q,bs,sn,sub,col,dd,k0,k1,k2,k3,k5,hC⟩:=X.obj;have Rt:x≠J.cls:=by rintro rfl;have z:hp.get? J.cls=_:=o1;rw [hC] at z;cases z;cases o2
 refine store_attr (ns:=ns) kh hC X.ns (h0 _ (by decide)) (h0 _ hn) hB Rt ⟨ob,o1,o2,o4,.inr ⟨dx,o3,I0.ne,Sf⟩⟩ (fun h' Zq I' hk ho=>?_) hwi Ru;obtain ⟨oa,q1,q2,q3,q4,q5⟩:=ho _ o1;replace q5:=q5 dx o3;have Xy:h'.get? x=some ob:=by rw [q1];obtain ⟨c0,d0,Z3,s0⟩:=oa;obtain ⟨c1,d1,dt1,s1⟩:=ob;simp only at q2 q3 q4 q5 o3;subst q2;subst q3;subst q4;subst q5;subst o3;rfl
 have o1:hp.get? x=some ob:=o1;have kk:∀ b o,b≠dx->hp.get? b=some o->h'.get? b=some o:=fun b o hb e=>by
  by_cases z:b=x
  ·subst z;rw [o1] at e;cases e;exact Xy
  ·exact hk b o z (fun SY d' z1 z2=>by rw [o1] at z1;cases z1;rw [o3] at z2;cases z2;exact hb) e
 have Yt:h'.Ns1 dx fun y=>if y=name then some v else mA y:=by
  obtain ⟨o',y1,y2,y3,y4⟩:=I';rw [Xy] at y1;cases y1;rcases y4 with ⟨z,_⟩ | ⟨d',z1,_,z3⟩
  ·rw [o3] at z;cases z
  ·rw [o3] at z1;cases z1;exact z3
 have t:Qp J [dx] W ⟨hp,g,d,tk,os⟩ W ⟨h',g,d,Zq,os⟩:=Qp.grow (X:=[dx]) (s':=⟨h',g,d,Zq,os⟩) hw (fun b o hb e=>kk b o (by simpa using hb) e)
  (fun b o e=>by
   by_cases z:b=dx
   ·subst z;obtain ⟨o',_,_,e',_⟩:=Yt;exact ⟨o',e'⟩
   ·exact ⟨o,kk b o z e⟩) (fun b hb=>by simp at hb;subst hb;exact I0.Xz) rfl rfl
 refine ⟨I0.er.keep t (fun b hb Sv=>?_),I0.tr.RQ t,⟨ob,Xy,o2,o3,o4⟩,Yt,I0.ne,I0.nf,I0.Xz,I0.xN⟩;simp at Sv;subst Sv;rw [aS] at hb;exact I0.nf hb
theorem sa:∀ {p1 p2 ps:Pos} {e:Expr} {name:Str} {v:ag} {ns:List Str} {Q:Flow->ah->Prop} {Pe:ah->Prop} (kl:Kl J) (I:IS J W s1 sc st env x dx mA s) (R0:varD sc st "self" =some (.raw x)) (hn:name∈Rk) (hB:bI (.type "object") name=pure none) (hwi:gY mA ns) (Ru:ns.length<=dw) (hsw:jg e (some (.Attribute (.Name "self" p1) name p2)) ps.line env=pure false) (he:aD (aC P0 J.w) A (eval e env) (fun u s'=>u=v/\Qp J [] W s W s'/\Pe s') (fun _ _=>False) s) (hq:∀ s',IS J W s1 sc st env x dx (fun y=>if y=name then some v else mA y) s'->(∃ s2,Pe s2/\Qp J [dx] W s2 W s')->Q .next s'),aD (aC P0 J.w) A (exec (.Assign [.Attribute (.Name "self" p1) name p2] e ps) env) Q (fun _ _=>False) s:=by iterate 19 refine jG (af he (fun u s2 z0=>?_) fun _ _ f=>f) hsw;obtain ⟨hu,t,hpe⟩:=z0;subst hu;have I2:=I.expr t;obtain ⟨v1,Sj,r1⟩:=I2.er.vars "self" _ R0;dsimp only [Rd] at r1;subst r1;refine bq (cr Sj I2.er.kind (by decide) ?_) (by decide);refine af (IS.set (s1:=s2) kl ⟨I2.er,Qp.refl I2.tr.ok,I2.ob,I2.ns,I2.ne,I2.nf,I2.Xz,I2.xN⟩ hn hB hwi Ru) (fun _ s3 I3=>?_) fun _ _ f=>f;exact hq s3 ⟨I3.er,I2.tr.RQ I3.tr,I3.ob,I3.ns,I3.ne,I3.nf,I3.Xz,I3.xN⟩ ⟨s2,hpe,I3.tr⟩
theorem qG:∀ {m:Str->Option ag} {ns:List Str} {name:Str} {v:ag} (h:gY m ns),gY (fun y=>if y=name then some v else m y) (name::ns):=by iterate 5
 exact (fun y hy=>by
 by_cases q:y=name
 ·simp [q]
 ·have hy:(if y=name then some v else m y)≠none:=hy;rw [if_neg q] at hy;exact av _ (h y hy))
structure Made (J:Cx) (W:Wd) (s:ah) (fv:ag) (x dx pA:Addr) (s':ah):Prop where
 tr:Qp J [] W s W s'
 ob:∃ ob,s'.heap.get? x=some ob/\ob.cls= .ref J.cls/\ob.dict=some dx/\∀ c:mv,ob.data≠ .cls c
 ns:∃ t u,s'.heap.Ns1 dx (tO (.int 1 t) fv (.str "\n\t\r " u) pA)
 pb:bS s'.heap pA #[]
 new:s.heap.get? x=none/\s.heap.get? dx=none/\s.heap.get? pA=none
 ne:dx≠x/\dx≠pA/\pA≠x
theorem xF:∀ {fv:ag} {d:D} {Q:ag->ah->Prop} (fx:Fx J) (kl:Kl J) (rv:Rd J W.F W.as d fv) (hu:∀ F as v,Rd J F as d v->v=fv) (hw:Qs J W s) (hA:A.depth+4<cw) (hQ:∀ s' x dx pA,Made J W s fv x dx pA s'->Q (.ref x) s'),aD (aC P0 J.w) A (call (.ref J.cls) [fv]) Q (fun _ _=>False) s:=by iterate 10
 obtain ⟨N,mN,hc,h0,UG⟩:=kl.ex;obtain ⟨f,fo,Yy,QE,ho,Sr⟩:=UG _ _ D4;have RY:=hw;obtain ⟨hp,g,dr,tk,os⟩:=s;have X:=hc hp hw.QB;obtain ⟨nm,q,bs,sn,sub,col,dd,k0,k1,k2,k3,k5,hC⟩:=X.obj;refine wpAny_call_obj_init PySem.F.objNew hC X.ns Yy (hw.QB _ _ ho) Sr fun h' x dx Mk=>?_;have t1:Qp J [] W ⟨hp,g,dr,tk,os⟩ W ⟨h',g,dr,tk,os⟩:=Qp.grow (X:=[]) (s':=⟨h',g,dr,tk,os⟩) RY (fun b o _ e=>Mk.keeps b o e) (fun b o e=>⟨o,Mk.keeps b o e⟩) (by simp) rfl rfl;obtain ⟨ob,o1,o2,o3,o4⟩:=id Mk.inst;have o5:=Mk.dict ob o1;have Zv:h'.Ns1 dx (fun _=>none)/\dx≠x:=by
  rcases o4 with ⟨z,_⟩ | ⟨d',z1,z2,z3⟩
  ·rw [z] at o5;cases o5
  ·rw [o5] at z1;cases z1;exact ⟨z3,z2⟩
 have ndx:=RY.QQ Mk.newD;have nx:=RY.QQ Mk.newX;refine sG (W:=W) (ds:=[.raw x,d]) fx QE rfl (by show A.depth+1<_;omega) (by dsimp only [Qt,Rd];exact ⟨_,_,rfl,rfl,_,_,rfl,rv,rfl⟩) t1.ok fun env s2 R=>?_;have nf:dx∉am env:=fun hm=>by have:=R.fr _ hm;obtain ⟨o',_,_,e,_⟩:=Zv.1;have this:h'.get? dx=none:=this;rw [this] at e;cases e
 have I0:IS J W s2 initFn.scope _ env x dx (fun _=>none) s2:=⟨R.R,Qp.refl R.ok,⟨ob,R.tr.keep _ _ nx.2.1 nx.2.2 (by simp) o1,o2,o5,o3⟩,Ns1.keep Zv.1 fun o e=>R.tr.keep _ _ ndx.2.1 ndx.2.2 (by simp) e,Zv.2,nf,ndx,nx⟩
 show aD _ _ (gg initFn.body env) _ _ _;unfold initFn;refine ao (sa kl (v:= .int 1 s2.toks) (ns:=[]) I0 (by rfl') (by decide) rQ (fun y hy=>absurd rfl hy) (by decide) rfl (Pe:=fun _=>True) (bO ⟨rfl,Qp.toks R.ok,trivial⟩) fun s3 I1 _=>?_);obtain ⟨vf,hvf,rf⟩:=I1.er.vars "fp" d (by rfl');have aaO:=hu _ _ _ rf;subst aaO;refine ao (sa kl (v:=vf) (ns:=["lineno"]) I1 (by rfl') (by decide) uC (qG fun y hy=>absurd rfl hy) (by decide) rfl (Pe:=fun _=>True) (bq (cr hvf I1.er.kind (by decide) ⟨rfl,Qp.refl I1.tr.ok,trivial⟩) (by decide)) fun s4 I2 _=>?_);refine ao (sa kl (v:= .str "\n\t\r " s4.toks) (ns:=["instream","lineno"]) I2 (by rfl') (by decide) tm (qG (qG fun y hy=>absurd rfl hy)) (by decide) rfl (Pe:=fun _=>True) (cK ⟨rfl,Qp.toks I2.tr.ok,trivial⟩) fun s5 I3 _=>?_);have Wm:s5.heap.get? s5.heap.objs.size=none:=bv _;have k6:=Qp.push (X:=[]) (tk:=s5.toks) I3.tr.ok {cls:= .type "list",data:= .seq ([]:List ag).toArray};refine ao (sa kl (v:= .ref s5.heap.objs.size) (ns:=["whitespace","instream","lineno"]) I3 (by rfl') (by decide) qR (qG (qG (qG fun y hy=>absurd rfl hy))) (by decide) rfl
  (Pe:=fun s'=>s'.heap.get? s5.heap.objs.size=some {cls:= .type "list",data:= .seq ([]:List ag).toArray}) (gU (aZ ⟨by simp,rfl,k6,ax _ rfl⟩)) fun s6 I4 t6=>aW ⟨rfl,?_⟩)
 obtain ⟨s7,hpa,t7⟩:=t6;have tr2:Qp J [] W ⟨hp,g,dr,tk,os⟩ W s2:=t1.Qn R.tr;have ZQ:∀ b∈[dx],b∈([]:List Addr)\/(⟨hp,g,dr,tk,os⟩:ah).heap.get? b=none:=fun b hb=>by simp at hb;subst hb;exact .inr Mk.newD
 have np:=(tr2.trans I3.tr ZQ).Qy Wm;have npa:=RY.QQ np;have Ue:dx≠s5.heap.objs.size:=fun q=>by obtain ⟨o',_,_,e,_⟩:=I3.ns;rw [q,Wm] at e;cases e
 have hpx:s5.heap.objs.size≠x:=fun q=>by obtain ⟨o',e,_⟩:=I3.ob;rw [<-q,Wm] at e;cases e
 refine hQ s6 x dx s5.heap.objs.size ⟨tr2.trans I4.tr ZQ,I4.ob,⟨s2.toks,s4.toks,?_⟩,⟨_,_,t7.keep _ _ npa.2.1 npa.2.2 (by simpa using dz Ue) hpa,rfl,rfl,rfl⟩,⟨Mk.newX,Mk.newD,np⟩,Zv.2,Ue,hpx⟩;have:=I4.ns;have hm:(fun y:Str=>if y="pushback" then some (ef s5.heap.objs.size) else if y="whitespace" then some (.str "\n\t\r " s4.toks) else if y="instream" then some vf else if y="lineno" then some (.int 1 s2.toks) else none)=tO (.int 1 s2.toks) vf (.str "\n\t\r " s4.toks) s5.heap.objs.size:=by
  funext y;unfold tO;by_cases q1:y="lineno"
  ·subst q1;rfl
  by_cases q2:y="instream"
  ·subst q2;rfl
  by_cases q3:y="whitespace"
  ·subst q3;rfl
  by_cases q4:y="pushback"
  ·subst q4;rfl
  simp only [if_neg q1,if_neg q2,if_neg q3,if_neg q4]
 rw [<-hm];exact this
end
section
variable {J:Cx} {A:bf} {W W0 W':Wd} {s s0 s1 s':ah} {x dx pA:Addr} {fv:ag}
theorem Ec:∀ {h:Heap} (kl:Kl J) (hl:H0 J h),jI (aC P0 J.w) h (lG (.ref J.cls)) .machine:=by iterate 3
 obtain ⟨N,mN,hc,_⟩:=kl.ex;obtain ⟨nm,q,bs,sn,sub,col,dd,k0,k1,k2,k3,k5,hC0⟩:=(hc h hl).obj;intro A Q E s k hq;obtain ⟨hh,g,d,t,os⟩:=s;have hC:hh.get? J.cls=_:=k _ _ hC0;have f1:=tc_lookup;have hT:(⟨hh,g,d,t,os⟩:ah).TypeIs (.ref J.cls) "type" :=⟨_,hC,rfl⟩
 unfold lG specialOf;repeat (any_goals (first | assumption | with_reducible refine d8 hC ?_ | with_reducible refine mI hC ?_ | wp_step))
theorem xU:∀ (fx:Fx J) (kl:Kl J),pV J "_netrclex" (.ref J.cls):=by iterate 2 obtain ⟨mg,mb,h1,h2,_,_,_,_,_,_,_,_,h3,_⟩:=fx.glob;exact ⟨⟨mg,mb,h1,h2,.inl h3⟩,fun h hl=>⟨_,.inr (.inl rfl),Ec kl hl⟩⟩
theorem CJ:∀ {src:Option Nat} (hw:Qs J W s) (M:Made J W s fv x dx pA s') (WU:SrcAt J W.F W.as fv src),∃ W',Qp J [] W s W' s'/\W'.H=W.H++[.lex 1 src []]/\Rd J W'.F W'.as (.loc W.H.length) (.ref x):=by iterate 4
 obtain ⟨ob,o1,o2,o3,o4⟩:=M.ob;obtain ⟨t,u,Sf⟩:=M.ns;have nx:=hw.QQ M.new.1;have nd:=hw.QQ M.new.2.1;have np:=hw.QQ M.new.2.2;have t2:=M.tr.Q8 o1 M.new.1 nx.2.1 nx.2.2;have le:PM.le W.F (W.Q8 x ob).F:=t2.le;have ap:∀ b o,b≠x->W.F b=none/\b∉J.T/\b∉W.QK.flatten->s'.heap.get? b=some o->Apart J (W.Q8 x ob) s'.heap b:=fun b o hb n e=>⟨by show (if b=x then some ob else W.F b)=none;rw [if_neg hb];exact n.1,n.2.1,n.2.2,o,e⟩
 obtain ⟨od,es,ep,hde,_⟩:=id Sf;obtain ⟨op,n,hpe,_⟩:=id M.pb;refine ⟨_,Qp.Xx (mo:= .lex 1 src []) (a:=x) (fp:=[dx,pA]) t2 (fun b hb=>?_) (by simpa using M.ne.2.1) ?_,rfl,?_⟩
 ·rcases aq.mp hb with rfl | hb
  ·exact ⟨ap _ _ M.ne.1 nd hde,M.new.2.1⟩
  ·simp at hb;subst hb;exact ⟨ap _ _ M.ne.2.2 np hpe,M.new.2.2⟩
 ·refine ⟨by simp,dx,pA,fv,t,u,#[],⟨ob,oT _ _ _,o2,o3,o4⟩,Sf,M.pb,by dsimp only [Qt],rfl,WU.mono le fun i a e=>?_⟩;show (W.as++[x])[i]? =some a;rw [bg (ak.mp e).1];exact e
 ·refine ⟨x,rfl,?_⟩;show (W.as++[x])[W.H.length]? =some x;rw [<-hw.Rg,aT (bN _)];simp
theorem HK:∀ {ds:List D} {g g':G} {d:D} (fx:Fx J) (kl:Kl J) (h:rO ds g=some (d,g')),∃ fv,pV J "_netrclex" fv/\∀ {A W s vs},Qx 1 A->W.H=g->Qt J W.F W.as ds vs->Qs J W s->Ex J A (call fv vs) [] W s (li J d g'):=by iterate 7
 refine ⟨.ref J.cls,xU fx kl,fun {A W s vs} hA hg hd hw=>?_⟩;replace h:=qO h;obtain ⟨d0,h1,_,h2,h⟩:=h;cases oX h1;cases sf h2
 ·cases h;obtain ⟨v,rfl,rv⟩:=qz hd;cases (show v= .none from rv);refine xF fx kl (d:= .none) rv (fun F as v h=>h) hw (by have:=hA.2.1;omega) fun s' x dx pA M=>?_;obtain ⟨W',k,e,r⟩:=CJ (src:=none) hw M rfl;subst hg;exact ⟨W',k,e,r⟩
end
structure Tx (J:Cx):Prop where
 inj:∀ T∈J.tabs,∀ T'∈J.tabs,T.a=T'.a->T=T'
 hd:∀ T∈J.tabs,∀ h,H0 J h->lT h T.c T.a
 bi:∃ mg,Uj (F0 J) bC mg/\∀ T∈J.tabs,∀ h,H0 J h->h.BuiltinsAt mg T.a
 mn:∀ T∈J.tabs,bC≠T.a
section
variable {J:Cx} {A:bf} {W W0 W':Wd} {s s0 s1 s':ah} {X:List Addr}
theorem Qp.table:∀ {T:Tr} {h':Heap} {tk:Nat} {c':Addr} {oc:Obj} {vs:Array ag} {t:Tok} (tx:Tx J) (hT:T∈J.tabs) (hw:Qs J W s) (hx:fw T.a s.heap h') (hn:s.heap.get? c'=none) (Yo:h'.get? c'=some oc) (hd:oc.data= .fields vs) (hv:vs[1]? =some (.str T.q t)) (XQ:h'.get? T.a=some (ud (#[]++#[m9 T.pos.line,m9 T.pos.col,.ref c']))),Qp J X W s (W.Q8 c' oc) {s with heap:=h',toks:=tk}:=by iterate 16
 have hTa:T.a∈J.T:=cM hT;have nc:=hw.QQ hn;have le:PM.le W.F (W.Q8 c' oc).F:=fun b ob eb=>by
  show (if b=c' then some oc else W.F b)=some ob;by_cases hb:b=c'
  ·subst hb;rw [nc.1] at eb;cases eb
  ·rw [if_neg hb];exact eb
 have kk:∀ b o,b∉J.T->s.heap.get? b=some o->h'.get? b=some o:=fun b o hb e=>hx b o (fun q=>hb (q▸hTa)) e;have th:∀ b o,s.heap.get? b=some o->∃ o',h'.get? b=some o':=fun b o e=>by
  by_cases q:b=T.a
  ·subst q;exact ⟨_,XQ⟩
  ·exact ⟨o,hx b o q e⟩
 have fN:∀ b∈W.QK.flatten,∀ o,s.heap.get? b=some o->h'.get? b=some o:=fun b hb o e=>kk b o (hw.RI b hb).2.1 e;exact {
  ok:={
   sub:=fun b ob eb=>by
    have TN:(if b=c' then some oc else W.F b)=some ob:=eb;by_cases hb:b=c'
    ·subst hb;rw [if_pos rfl] at TN;cases TN;exact Yo
    ·rw [if_neg hb] at TN;exact kk b ob (fun hm=>by rw [hw.RD b hm] at TN;cases TN) (hw.sub _ _ TN)
   base:=fun b ob h1 h2=>le _ _ (hw.base b ob h1 h2)
   RD:=fun b hb=>by show (if b=c' then some oc else W.F b)=none;rw [if_neg (fun (q:b=c')=>nc.2.1 (by rw [<-q];exact hb))];exact hw.RD b hb
   low:=fun b o e=>(by obtain ⟨o',e'⟩:=hw.low b o e;exact th b o' e')
   tab:=fun T' V4=>by
    by_cases q:T'.a=T.a
    ·have:=tx.inj T' V4 T hT q;subst this;exact .inr ⟨c',oc,vs,t,XQ,oT _ _ _,hd,hv⟩
    ·exact (hw.tab T' V4).keep le fun o e=>hx _ o q e
   Rg:=hw.Rg
   Rm:=hw.Rm
   obj:=fun i mo a fp h1 h2 h3=>(hw.obj i mo a fp h1 h2 h3).keep le (Pre.refl _) fun b hb o e=>fN b (qP h3 hb) o e
   nodup:=hw.nodup
   RI:=fun b hb=>by obtain ⟨z1,z2,o,z3⟩:=hw.RI b hb;refine ⟨?_,z2,o,fN b hb o z3⟩;show (if b=c' then some oc else W.F b)=none;rw [if_neg (fun (q:b=c')=>nc.2.2 (by rw [<-q];exact hb))];exact z1
   bare:=hw.bare
   os:=hw.os}
  le:=le
  fresh:=fun b ob eb=>by
   have TN:(if b=c' then some oc else W.F b)=some ob:=eb;by_cases hb:b=c'
   ·subst hb;exact .inr hn
   ·rw [if_neg hb] at TN;exact .inl TN
  keep:=fun b o h1 _ _ e=>kk b o h1 e
  there:=th
  as:=Pre.refl _
  QK:=fun _ e=> .inl e
  gens:=fun _ _ e=>e}
noncomputable def Hk (J:Cx) (W:Wd) (s:ah) (q:Str) (W':Wd) (s':ah) (f c':Addr) (o:Obj):Prop:=
 Qp J [] W s W' s'/\W'.H=W.H/\s.heap.get? f=none/\s'.heap.get? f=some o/\QA W'.F (.ref c') q/\∃ s2,Qp J [] W s W' s2/\s2.heap.get? f=none/\Qp J [] W' s2 W' s'
theorem NN:∀ {T:Tr} {name qual:Str} {params:dD} {body:List Stmt} {scope:aX} {env:Env} {pos:Pos} {fl:Nat} {Tp:List (Str×Addr)} {Q:ag->ah->Prop} {E:ag->ah->Prop} (tx:Tx J) (hT:T∈J.tabs) (Sr:eX scope env=pure Tp) (YK:env.globals=bC) (Rb:env.code= .ref T.c) (Rz:pos=T.pos) (Vg:qual=T.q) (hw:Qs J W s) (hq:∀ f c' doc pm QW W' s',Hk J W s qual W' s' f c' (dQ name qual params body scope Tp doc pm c' QW)->Q (.ref f) s'),aD (aC P0 J.w) A (makeFunction name qual params (.stmts body) scope env [] [] [] pos fl) Q E s:=by iterate 21
 subst Rz;subst Vg;obtain ⟨mg,UC,V3⟩:=tx.bi;have YJ:=tx.hd T hT _ hw.QB;rcases hw.tab T hT with h0 | ⟨c',oc,vs,t,h1,h2,h3,h4⟩
 ·refine PySem.W.makeFunction_K Sr YK (UC.ns hw.QB) Rb YJ h0 trivial rfl (tx.mn T hT) (V3 T hT _ hw.QB) fun c' QW doc h' tk hx Xj RO WY XQ=>?_;obtain ⟨c2,oc,vs,t,e2,Yo,hd,hv⟩:=WY;cases e2;have hn:s.heap.get? c'=none:=ik Xj;have k1:=Qp.table (X:=[]) (tk:=tk) tx hT hw hx hn Yo hd hv XQ;have k2:=Qp.push (X:=[]) (tk:=tk) k1.ok (dQ name T.q params body scope Tp doc ((mg "__name__").getD .none) c' QW);exact hq _ _ _ _ _ _ _ ⟨k1.Qn k2,rfl,k1.Qy (bv h'),ax _ rfl,⟨c',oc,vs,t,rfl,oT _ _ _,hd,hv⟩,_,k1,bv h',k2⟩
 ·refine PySem.W.makeFunction_hit Sr YK (UC.ns hw.QB) Rb YJ h1 trivial (cv:= .ref c') (by unfold mi;simp [m9,mi]) (V3 T hT _ hw.QB) fun QW doc h' tk hk Ru=>?_;have k1:Qp J [] W s W {s with heap:=h',toks:=tk}:=Qp.grow (X:=[]) hw (fun b o _ e=>hk b o e) (fun b o e=>⟨o,hk b o e⟩) (by simp) rfl rfl;have k2:=Qp.push (X:=[]) (tk:=tk) k1.ok (dQ name T.q params body scope Tp doc ((mg "__name__").getD .none) c' QW);exact hq _ _ _ _ _ _ _ ⟨k1.Qn k2,rfl,k1.Qy (bv h'),ax _ rfl,⟨c',oc,vs,t,rfl,h2,h3,h4⟩,_,k1,bv h',k2⟩
theorem K6:∀ {T:Tr} {name qual:Str} {params:dD} {body:Expr} {scope:aX} {env:Env} {pos:Pos} {fl:Nat} {Tp:List (Str×Addr)} {Q:ag->ah->Prop} {E:ag->ah->Prop} (tx:Tx J) (hT:T∈J.tabs) (Sr:eX scope env=pure Tp) (YK:env.globals=bC) (Rb:env.code= .ref T.c) (Rz:pos=T.pos) (Vg:qual=T.q) (hw:Qs J W s) (hq:∀ f c' pm QW W' s',Hk J W s qual W' s' f c' (cj name qual params body scope Tp pm c' QW)->Q (.ref f) s'),aD (aC P0 J.w) A (makeFunction name qual params (.expr body) scope env [] [] [] pos fl) Q E s:=by iterate 21
 subst Rz;subst Vg;obtain ⟨mg,UC,V3⟩:=tx.bi;have YJ:=tx.hd T hT _ hw.QB;rcases hw.tab T hT with h0 | ⟨c',oc,vs,t,h1,h2,h3,h4⟩
 ·refine PySem.W.kla_makeFunction Sr YK (UC.ns hw.QB) Rb YJ h0 trivial rfl (tx.mn T hT) (V3 T hT _ hw.QB) fun c' QW h' tk hx Xj RO WY XQ=>?_;obtain ⟨c2,oc,vs,t,e2,Yo,hd,hv⟩:=WY;cases e2;have hn:s.heap.get? c'=none:=ik Xj;have k1:=Qp.table (X:=[]) (tk:=tk) tx hT hw hx hn Yo hd hv XQ;have k2:=Qp.push (X:=[]) (tk:=tk) k1.ok (cj name T.q params body scope Tp ((mg "__name__").getD .none) c' QW);exact hq _ _ _ _ _ _ ⟨k1.Qn k2,rfl,k1.Qy (bv h'),ax _ rfl,⟨c',oc,vs,t,rfl,oT _ _ _,hd,hv⟩,_,k1,bv h',k2⟩
 ·refine PySem.W.kla_makeFunctionHit Sr YK (UC.ns hw.QB) Rb YJ h1 trivial (cv:= .ref c') (by unfold mi;simp [m9,mi]) (V3 T hT _ hw.QB) fun QW h' tk hk Ru=>?_;have k1:Qp J [] W s W {s with heap:=h',toks:=tk}:=Qp.grow (X:=[]) hw (fun b o _ e=>hk b o e) (fun b o e=>⟨o,hk b o e⟩) (by simp) rfl rfl;have k2:=Qp.push (X:=[]) (tk:=tk) k1.ok (cj name T.q params body scope Tp ((mg "__name__").getD .none) c' QW);exact hq _ _ _ _ _ _ ⟨k1.Qn k2,rfl,k1.Qy (bv h'),ax _ rfl,⟨c',oc,vs,t,rfl,h2,h3,h4⟩,_,k1,bv h',k2⟩
end
noncomputable def xQ (J:Cx) (f q:Str) (pos:Pos):Prop:=∃ T∈J.tabs,T.q=q/\T.pos=pos/\∃ mg mb a o fd,Uj (F0 J) bC mg/\Uj (F0 J) bU mb/\mg f=some (.ref a)/\F0 J a=some o/\o.data= .func fd/\fd.code= .ref T.c/\fd.qualname=f/\∀ fn,pd P0 f=some fn->FnAt J (F0 J) a fn
noncomputable def NP:aX:=(.mk .function [("text",.local),("stream",.local),("signs",.cell),("list",.globalImplicit),("_netrclex",.globalImplicit)] false false [])
noncomputable def Uo:Fn:=⟨["text"],NP,
 [(.Assign [(.Name "signs" ⟨246,4,246,9⟩)] (.Call (.Name "list" ⟨246,12,246,16⟩) [(.Name "text" ⟨246,17,246,21⟩)] [] ⟨246,12,246,22⟩) ⟨246,4,246,22⟩),
  (.Assign [(.Name "stream" ⟨247,4,247,10⟩)] (.Call (.Name "_netrclex" ⟨247,13,247,22⟩) [(.Constant .none 0 ⟨247,23,247,27⟩)] [] ⟨247,13,247,28⟩) ⟨247,4,247,28⟩),
  (.Assign [(.Attribute (.Name "stream" ⟨248,4,248,10⟩) "read" ⟨248,4,248,15⟩)] (.Lambda vX u0 o6 uG) ⟨248,4,248,78⟩),
  (.Return (some (.Call (.Name "_netrclex" ⟨249,11,249,20⟩) [(.Name "stream" ⟨249,21,249,27⟩)] [] ⟨249,11,249,28⟩)) ⟨249,4,249,28⟩)]⟩
theorem Bm:pd P0 "_law_lexer" =some Uo:=by iterate 0 rfl'
section
variable {J:Cx} {A:bf} {W W0 W':Wd} {s s0 s1 s':ah} {X:List Addr}
theorem Gt:∀ {x:List Nat},∀ {n:Nat} {vs:List ag},vs.length=(x.drop n).length->(∀ j v,vs[j]? =some v->∃ c u,x[n+j]? =some c/\v= .str ⟨#[c]⟩ u)->yk (x.drop n) vs:=by iterate 1
 intro n vs;generalize hd:x.drop n=y;intro hl h;induction y generalizing n vs with
 | nil=>simp at hl;subst hl;dsimp only [yk]
 | cons c r ih=>
  cases vs with
  | nil=>simp at hl
  | cons v vr=>
   obtain ⟨c',u,h1,rfl⟩:=h 0 v rfl;have hc:x[n+0]? =some c:=by
    have:(x.drop n)[0]? =some c:=by rw [hd];rfl
    rw [fJ] at this;exact this
   rw [hc] at h1;cases h1;refine ⟨_,vr,rfl,⟨u,rfl⟩,ih (n:=n+1) ?_ (by simpa using hl) fun j w hj=>?_⟩
   ·have:=congrArg jA hd;rw [List.tail_drop] at this;exact this
   ·have:=h (j+1) w (by simpa using hj);rw [show n+1+j=n+(j+1) by omega];exact this
theorem xb:∀ {a:Addr} {o:Obj} (t:Qp J X W s W' s') (n:W.F a=none/\a∉J.T/\a∉W.QK.flatten) (hX:a∉X) (e:s.heap.get? a=some o),s'.heap.get? a=some o:=by iterate 6 exact (t.keep _ _ n.2.1 n.2.2 hX e)
theorem qc:∀ {a b:Addr} {o:Obj} (h:W.F b=none) (Rt:b≠a),(W.Q8 a o).F b=none:=by iterate 5 show (if b=a then some o else W.F b)=none;rw [if_neg Rt];exact h
theorem xC:∀ {a:Addr} {o:Obj} (h:W.F a=none),PM.le W.F (W.Q8 a o).F:=by iterate 3
 exact (fun b ob e=>by
 show (if b=a then some o else W.F b)=some ob;by_cases q:b=a
 ·subst q;rw [h] at e;cases e
 ·rw [if_neg q];exact e)
theorem AB:∀ {ds:List D} {g g':G} {d:D} (fx:Fx J) (kl:Kl J) (tx:Tx J) (tf:xQ J "_law_lexer" "_law_lexer.<locals>.<lambda>" uG) (h:uZ ds g=some (d,g')),∃ fv,pV J "_law_lexer" fv/\∀ {A W s vs},Qx 1 A->W.H=g->Qt J W.F W.as ds vs->Qs J W s->Ex J A (call fv vs) [] W s (li J d g'):=by iterate 9
 obtain ⟨T,hT,YX,YY,mg,mb,a,o,fd,UC,Yz,YA,hF,Wu,Rb,XR,QE⟩:=tf;have QE:=QE _ Bm;refine ⟨.ref a,uu UC Yz YA QE,fun {A W s vs} hA hg hd hw=>?_⟩;replace h:=qO h;obtain ⟨d0,h1,x,h2,h⟩:=h;cases oX h1;cases oO h2;cases h;obtain ⟨v,rfl,rv⟩:=qz hd;have QX:x.length<=lim:=rv.1;refine eV (vo (ds:=[.str x]) fx QE rfl (by have:=hA.2.1;omega) hd hw fun env Ql R z0=>?_);obtain ⟨o',fd',Wy,TL,Tn⟩:=z0;rw [hF] at Wy;cases Wy;rw [Wu] at TL;cases TL;have Q4:(A.deeper env).handled=none:=hA.1;have YP:(A.deeper env).depth+4<cw:=by show A.depth+1+4<_;have:=hA.2.1;omega
 show aD _ _ (gg Uo.body env) _ _ _;unfold Uo
 -- signs
 obtain ⟨v1,Sj,r1⟩:=R.R.vars "text" (.str x) (by rfl');dsimp only [Rd] at r1;obtain ⟨_,t1,rfl⟩:=r1;have cl:=uj fx (f:="list") (by decide);refine ao (bj (bH (bk R.R.kind (R.R.global (by rfl')) (cl.1.load R.R R.ok ?_) (by decide))) rfl);refine pk (first:=[]) cl rfl ?_;refine aR (bq (cr Sj R.R.kind (by decide) ?_) (by decide)) rfl;refine aZ ⟨R.ok.QB,?_⟩;have ZE:x.length<=dw:=bw QX pt;refine call_list_str Q4 ⟨x.toArray⟩ t1 (fun h2 Zp acc c2 hk2 hS Ui=>?_) (by simpa using ZE);have k2:Qp J [] W Ql W {Ql with heap:=h2,toks:=Zp}:=Qp.grow (X:=[]) R.ok (fun b o _ e=>hk2 b o e) (fun b o e=>⟨o,hk2 b o e⟩) (by simp) rfl rfl;have nS:Ql.heap.get? Ql.heap.objs.size=none:=bv _;have WI:=R.ok.QQ nS;have ZV:Ql.heap.objs.size∉am env:=fun hm=>R.Q2 nS (aE _ hm);have R2:=R.expr k2;refine af (R2.store (x:="signs") (v:= .ref Ql.heap.objs.size) (d:= .raw Ql.heap.objs.size) (by decide) rfl (by dsimp only [Rd])) (fun _ s3 z1=>?_) fun _ _ f=>f;obtain ⟨k3,R3⟩:=z1;have hS3:=xb k3 WI ZV hS
 -- stream
 have cc:=xU fx kl;refine ao (bj (bH (bk R3.R.kind (R3.R.global (by rfl')) (cc.1.load R3.R R3.ok ?_) (by decide))) rfl);refine pk (first:=[]) cc rfl ?_;refine aR (mK ?_) rfl;refine aZ ⟨R3.ok.QB,?_⟩;refine xF fx kl (d:= .none) (by dsimp only [Rd]) (fun F as v h=>by exact h) R3.ok YP fun s4 x1 Uv pA1 M=>?_;have R4:=R3.expr M.tr;have x1f:x1∉am env:=fun hm=>R3.Q2 M.new.1 (aE _ hm);have d1f:Uv∉am env:=fun hm=>R3.Q2 M.new.2.1 (aE _ hm);refine af (R4.store (x:="stream") (v:= .ref x1) (d:= .raw x1) (by decide) rfl (by dsimp only [Rd])) (fun _ s5 z2=>?_) fun _ _ f=>f;obtain ⟨k5,R5⟩:=z2;obtain ⟨ob,o1,o2,o3,o4⟩:=M.ob;obtain ⟨tl,ul,Sf⟩:=M.ns;have nx:=R3.ok.QQ M.new.1;have nd:=R3.ok.QQ M.new.2.1;have hS4:=xb M.tr WI (by simp) hS3;have XF:Apart J W s5.heap Ql.heap.objs.size:=⟨WI.1,WI.2.1,WI.2.2,_,xb k5 WI ZV hS4⟩
 have hS5:=xb k5 WI ZV hS4;have hx5:=xb k5 nx x1f o1;have XC:Apart J W s5.heap x1:=⟨nx.1,nx.2.1,nx.2.2,_,hx5⟩
 have Ys:s5.heap.Ns1 Uv _:=Ns1.keep Sf fun o e=>xb k5 nd d1f e;have Wa:Apart J W s5.heap Uv:=⟨nd.1,nd.2.1,nd.2.2,(by obtain ⟨o,_,_,e,_⟩:=Ys;exact ⟨o,e⟩)⟩
 -- WE lambda
 have aaT:∃ c,env.cells.lookup ("signs" :Str)=some c/\s5.heap.IsCell c (some (.ref Ql.heap.objs.size)):=by
  obtain ⟨v,hv,rv⟩:=R5.R.vars "signs" (.raw Ql.heap.objs.size) (by rfl');dsimp only [Rd] at rv;subst rv;rcases hv with ⟨hk,_⟩ | ⟨_,c,h1,h2⟩
  ·rcases R5.R.kd "signs" .cell (by rfl') with q | ⟨q,_⟩
   ·rw [q] at hk;cases hk
   ·cases q
  ·exact ⟨c,h1,h2⟩
 obtain ⟨c,hc,Xp⟩:=aaT;have Vs:c∈am env:=av _ (aH.mpr ⟨_,al hc,rfl⟩);have To:eX o6 env=pure [(("signs" :Str),c)]:=by
  have:=sR (scope:=o6) (env:=env) fun y hy=>by simp [o6] at hy;subst hy;exact ⟨c,hc⟩
  rw [this];congr 1;show [(("signs" :Str),(env.cells.lookup ("signs" :Str)).getD 0)]=_;rw [hc];rfl
 refine ao (jG (PySem.W.kla_eval rfl (K6 tx hT To R5.R.glob (by rw [Tn];exact Rb) YY.symm (by rw [Tn,YX];show (fd.qualname++".<locals>.")++"<lambda>" =_;rw [XR];rfl') R5.ok fun f c' pm QW W6 s6 MF=>?_)) rfl);obtain ⟨t6,g6,nf,of6,ZH,s6',t6a,nf6,t6b⟩:=MF;have U4:=t6a.ok.QQ nf6;have R6:=R5.expr t6;obtain ⟨v6,hv6,r6⟩:=R6.R.vars "stream" (.raw x1) (by rfl');dsimp only [Rd] at r6;subst r6;refine bq (cr hv6 R6.R.kind (by decide) ?_) (by decide);have XE:=XF.keep t6;have UL:=XC.keep t6;have UM:=Wa.keep t6;have hS6:=XF.at t6 (by simp) _ hS5;have hx6:=XC.at t6 (by simp) _ hx5;have aa0:s6.heap.Ns1 Uv _:=Ns1.keep Ys fun o e=>Wa.at t6 (by simp) o e;have wi:gY (tO (.int 1 tl) .none (.str "\n\t\r " ul) pA1) ["lineno","instream","whitespace","pushback"]:=fun y hy=>by
  unfold tO at hy;by_cases q1:y="lineno"
  ·simp [q1]
  by_cases q2:y="instream"
  ·simp [q2]
  by_cases q3:y="whitespace"
  ·simp [q3]
  by_cases q4:y="pushback"
  ·simp [q4]
  rw [if_neg q1,if_neg q2,if_neg q3,if_neg q4] at hy;exact absurd rfl hy
 refine af (IS.set (s1:=s6) (name:="read") (v:= .ref f) kl ⟨R6.R,Qp.refl R6.ok,⟨ob,hx6,o2,o3,o4⟩,aa0,M.ne.1,d1f,⟨UM.1,UM.2.1,UM.2.2.1⟩,⟨UL.1,UL.2.1,UL.2.2.1⟩⟩ (by decide) yI wi (by decide)) (fun _ s7 I7=>?_) fun _ _ f=>f;have R7:=R6.Tb I7.tr (fun b hb=> .inr (.inr (by simp at hb;subst hb;exact ⟨R3.RM M.new.2.1,R3.tr.Qy M.new.2.1⟩))) I7.er
 -- WE second call;WE acd is frozen first
 have XD:=XE.keep I7.tr;have dS:Ql.heap.objs.size∉[Uv]:=fun hm=>by simp at hm;have:=M.new.2.1;rw [<-hm,hS3] at this;cases this
 have hS7:=XE.at I7.tr dS _ hS6;have of7:s7.heap.get? f=some (cj "<lambda>" (env.qual++"<lambda>") vX u0 o6 [("signs",c)] pm c' QW):=I7.tr.keep _ _ U4.2.1 U4.2.2 (fun hm=>by simp at hm;subst hm;obtain ⟨o,e⟩:=Wa.2.2.2;rw [nf] at e;cases e) of6;have Xo:∃ oc,s7.heap.get? c=some oc/\oc.data= .cell (some (.ref Ql.heap.objs.size)):=by
  obtain ⟨v,hv,rv⟩:=R7.R.vars "signs" (.raw Ql.heap.objs.size) (by rfl');dsimp only [Rd] at rv;subst rv;rcases hv with ⟨hk,_⟩ | ⟨_,c1,h1,o,h2,h3⟩
  ·rcases R7.R.kd "signs" .cell (by rfl') with q | ⟨q,_⟩
   ·rw [q] at hk;cases hk
   ·cases q
  ·rw [hc] at h1;cases h1;exact ⟨o,h2,h3⟩
 obtain ⟨oc,oc1,oc2⟩:=Xo;obtain ⟨XN,x7,y2,y3,y4⟩:=I7.ob;obtain ⟨od,es,ep,d7,dn1,dn2,dn3,dn4⟩:=I7.ns
 -- adQ Z5
 have cS:s.heap.get? c=none:=R7.fr c Vs;have hc5:∃ o,s5.heap.get? c=some o:=by obtain ⟨o,e,_⟩:=Xp;exact ⟨o,e⟩
 have ex5:∀ b,(∃ o,s5.heap.get? b=some o)->b≠f:=fun b z3 q=>by obtain ⟨o,e⟩:=z3;rw [q,nf] at e;cases e
 have cf:c≠f:=ex5 c hc5;have aab:x1≠f:=ex5 x1 XC.2.2.2;have ab1:Uv≠f:=ex5 Uv Wa.2.2.2;have Sf':Ql.heap.objs.size≠f:=ex5 _ XF.2.2.2;have cx:x1≠c:=fun q=>x1f (q▸Vs);have cd:Uv≠c:=fun q=>d1f (q▸Vs);have Sc:Ql.heap.objs.size≠c:=fun q=>ZV (q▸Vs);have Sx:Ql.heap.objs.size≠x1:=fun q=>by have:=M.new.1;rw [<-q,hS3] at this;cases this
 have Sd:Ql.heap.objs.size≠Uv:=fun q=>dS (by simp [q]);have fS:s.heap.get? f=none:=R5.tr.Qy nf;have xS:s.heap.get? x1=none:=R3.tr.Qy M.new.1;have dSn:s.heap.get? Uv=none:=R3.tr.Qy M.new.2.1;have SS:s.heap.get? Ql.heap.objs.size=none:=R.tr.Qy nS;have zc:=R7.R.apart c (aE _ Vs);have cF:W6.F c=none:=R7.R.VC hc (by
  rcases R7.R.kd "signs" .cell (by rfl') with q | ⟨q,_⟩
  ·exact q
  ·cases q)
 -- WE aad
 have t8:=R7.tr.Q8 of7 fS U4.2.1 U4.2.2;have t9:=t8.Q8 oc1 cS zc.2.1 zc.2.2.1;have t10:=t9.Q8 x7 xS UL.2.1 UL.2.2.1;have t11:=t10.Q8 d7 dSn UM.2.1 UM.2.2.1;have l8:=xC (o:=cj "<lambda>" (env.qual++"<lambda>") vX u0 o6 [("signs",c)] pm c' QW) U4.1;have l9:=xC (o:=oc) (qc (o:=cj "<lambda>" (env.qual++"<lambda>") vX u0 o6 [("signs",c)] pm c' QW) cF cf);have n10:(((W6.Q8 f (cj "<lambda>" (env.qual++"<lambda>") vX u0 o6 [("signs",c)] pm c' QW)).Q8 c oc)).F x1=none:=qc (qc UL.1 aab) cx;have l10:=xC (o:=XN) n10;have n11:((((W6.Q8 f (cj "<lambda>" (env.qual++"<lambda>") vX u0 o6 [("signs",c)] pm c' QW)).Q8 c oc)).Q8 x1 XN).F Uv=none:=qc (qc (qc UM.1 ab1) cd) M.ne.1;have Yb:=xC (o:=od) n11;have Ya:=qc (o:=od) (qc (o:=XN) (qc (o:=oc) (qc (o:=cj "<lambda>" (env.qual++"<lambda>") vX u0 o6 [("signs",c)] pm c' QW) XD.1 Sf') Sc) Sx) Sd;generalize Xt:((((W6.Q8 f (cj "<lambda>" (env.qual++"<lambda>") vX u0 o6 [("signs",c)] pm c' QW)).Q8 c oc)).Q8 x1 XN).Q8 Uv od=TU at t11 Yb Ya;have ZZ:TU.H=W.H:=by rw [<-Xt];exact g6
 have f11:TU.QK=W6.QK:=by rw [<-Xt];rfl
 have Fd:TU.F Uv=some od:=by rw [<-Xt];exact oT _ _ _
 have Fx':TU.F x1=some XN:=Yb _ _ (oT _ _ _);have Fc:TU.F c=some oc:=Yb _ _ (l10 _ _ (oT _ _ _));have Ff:TU.F f=some (cj "<lambda>" (env.qual++"<lambda>") vX u0 o6 [("signs",c)] pm c' QW):=Yb _ _ (l10 _ _ (l9 _ _ (oT _ _ _)));have l6:PM.le W6.F TU.F:=((l8.trans l9).trans l10).trans Yb;have WW:RK J TU.F (TU.as++[Ql.heap.objs.size]) s7.heap (.sg x) Ql.heap.objs.size [Ql.heap.objs.size]:=by refine ⟨QX,rfl,acc,⟨_,_,hS7,rfl,rfl,rfl⟩,?_⟩;have:=Gt (x:=x) (n:=0) (vs:=acc.toList) (by rw [bA,Ui.1];simp) (fun j v hj=>by have:=Ui.2 j v (by simpa using hj);obtain ⟨c,u,h1,h2⟩:=this;exact ⟨c,u,by simpa using h1,h2⟩);simpa using this
 have Zr:=Qp.Xx (mo:= .sg x) (a:=Ql.heap.objs.size) (fp:=[Ql.heap.objs.size]) t11 (fun b hb=>by simp at hb;subst hb;exact ⟨⟨Ya,XD.2.1,by rw [f11];exact XE.2.2.1,XD.2.2.2⟩,SS⟩) (by simp) WW;generalize Xs:(⟨TU.F,TU.H++[.sg x],TU.as++[Ql.heap.objs.size],TU.QK++[[Ql.heap.objs.size]]⟩:Wd)=Wb at Zr;have hj:Wb.as[W.H.length]? =some Ql.heap.objs.size:=by rw [<-Xs];show (TU.as++[Ql.heap.objs.size])[W.H.length]? =_;rw [<-ZZ,<-t11.ok.Rg,aT (bN _)];simp
 have F12:Wb.F=TU.F:=by rw [<-Xs]
 have g12:Wb.H=W.H++[.sg x]:=by rw [<-Xs,<-ZZ]
 have WU:SrcAt J Wb.F Wb.as (.ref x1) (some W.H.length):=by
  rw [F12];obtain ⟨cc',occ,vss,tt,hcc,hF6,hdd,hvv⟩:=ZH;cases hcc;refine ⟨x1,Uv,f,c,Ql.heap.objs.size,_,oc,rfl,⟨XN,Fx',y2,y3,y4⟩,M.ne.1,⟨od,es,ep,Fd,dn1,dn2,dn3,dn4⟩,?_,Fc,oc2,hj⟩;have hq:env.qual++"<lambda>" ="_law_lexer.<locals>.<lambda>" :=by rw [Tn];show (fd.qualname++".<locals>.")++"<lambda>" =_;rw [XR];rfl'
  exact ⟨Uo,vX,u0,o6,uG,_,pm,.ref c',QW,c',occ,vss,tt,Bm,by rfl,Ff,by rw [hq];rfl,rfl,l6 _ _ hF6,hdd,by rw [<-hq];exact hvv⟩
 obtain ⟨v7,hv7,r7⟩:=R7.R.vars "stream" (.raw x1) (by rfl');dsimp only [Rd] at r7;subst r7;refine ao (cm (bH (bk R7.R.kind (R7.R.global (by rfl')) (cc.1.load R7.R R7.ok ?_) (by decide))));refine pk (first:=[]) cc rfl ?_;refine aR (bq (cr hv7 R7.R.kind (by decide) ?_) (by decide)) rfl;refine aZ ⟨R7.ok.QB,?_⟩;refine xF fx kl (W:=Wb) (d:= .raw x1) (by dsimp only [Rd]) (fun F as v h=>by exact h) Zr.ok YP fun s8 x2 dx2 pA2 M2=>?_;obtain ⟨Zl,Yd,g13,r13⟩:=CJ Zr.ok M2 WU;subst hg;refine ⟨Zl,Zr.Qn Yd,?_,?_⟩
 ·rw [g13,g12,bK];rfl
 ·rw [g12] at r13;simpa using r13
end
section
variable {J:Cx} {A:bf} {W W0 W':Wd} {s s0 s1 s':ah} {X:List Addr} {sc:aX} {st:St} {env:Env}
structure FS (J:Cx) (X:List Addr) (W0:Wd) (s0:ah) (sc:aX) (env:Env) (st:St) (W:Wd) (s:ah):Prop where
 tr:Qp J X W0 s0 W s
 er:Qq J W s.heap sc st env []
 nl:s0.heap.get? env.locals=none
 nc:∀ x,sc.names.lookup x≠some .cell
theorem FS.expr:∀ (F:FS J X W0 s0 sc env st W s) (t:Qp J [] W s W' s'),FS J X W0 s0 sc env st W' s':=by iterate 2 exact (⟨F.tr.Qn t,F.er.QG t,F.nl,F.nc⟩)
theorem FS.store:∀ {x:Str} {v:ag} {d:D} (F:FS J X W0 s0 sc env st W s) (hx:pP sc x=true) (TH:oS st x=true) (rd:Rd J W.F W.as d v),aD (aC P0 J.w) A (gV env x v) (fun _ s'=>FS J X W0 s0 sc env (st.withRho ((x,d)::st.ρ)) W s') (fun _ _=>False) s:=by iterate 7 exact (af (u1 (Y:=[env.locals]) F.er F.tr.ok hx rd TH ⟨fun _=>by simp,fun q=>absurd q (F.nc x)⟩) (fun _ s' z0=>by obtain ⟨k,R⟩:=z0;exact ⟨F.tr.trans k (fun a ha=>by simp at ha;subst ha;exact .inr F.nl),R,F.nl,F.nc⟩) fun _ _ f=>f)
theorem FS.weaken:∀ (F:FS J [] W0 s0 sc env st W s),FS J X W0 s0 sc env st W s:=by iterate 1 exact (⟨F.tr.weaken (by simp),F.er,F.nl,F.nc⟩)
theorem FS.Zc:∀ (F:FS J X W0 s0 sc env st W s) (t:Qp J X W s W' s') (hX:∀ a∈am env,a∉X),FS J X W0 s0 sc env st W' s':=by iterate 3 exact (⟨F.tr.RQ t,F.er.keep t (by simpa using hX),F.nl,F.nc⟩)
theorem Ef:∀ {f c':Addr} {name q:Str} {params:dD} {body:List Stmt} {cl:List (Str×Addr)} {doc pm QW:ag} {ps:List Str} {ds:List D} {vs:List ag} {up:Qr} {Q:ag->ah->Prop} (fx:Fx J) (hF:s.heap.get? f=some (dQ name q params body sc cl doc pm c' QW)) (RH:QA W.F (.ref c') q) (hb:iD (mS name q params body sc cl .none .none doc pm none (.ref c') QW) ⟨vs,[]⟩=pure (ps.zip vs)) (Ti:∀ x∈ps,sc.names.lookup x=some .local) (Ug:db ps=true) (RF:∀ x:Str×eN,x∈sc.names->x.2≠ .cell) (hk:sc.kind= .function) (YR:sc.isCoroutine=false) (UD:sc.isGenerator=false) (Yh:∀ x d,up.lookup x=some d->∃ c v,cl.lookup x=some c/\s.heap.IsCell c (some v)/\Rd J W.F W.as d v) (Vs:∀ x,sc.names.lookup x=some .free->∃ c v,cl.lookup x=some c/\s.heap.IsCell c v) (Xh:∀ x y c,cl.lookup x=some c->cl.lookup y=some c->x=y) (Sr:∀ p∈cl,p.2∉J.T/\p.2∉W.QK.flatten/\∃ o,s.heap.get? p.2=some o) (S6:∀ x c,cl.lookup x=some c->sc.names.lookup x=some .free) (hd:Qt J W.F W.as ds vs) (hw:Qs J W s) (hA:A.depth<cw) (h:∀ env Ql,env.cells=cl->FS J [] W s sc env ⟨ps.zip ds,up,none⟩ W Ql->aD (aC P0 J.w) (A.deeper env) (gg body env) (fun f s'=>Q (match f with | .ret v=>v | _=> .none) s') (fun _ _=>False) Ql),aD (aC P0 J.w) A (call (.ref f) vs) Q (fun _ _=>False) s:=by iterate 34
 obtain ⟨cc,oc,vss,t',hcc,hF6,h7,h8⟩:=RH;cases hcc;refine eV (codeAny_call_function hA hF rfl YR UD rfl ⟨c',oc,vss,t',rfl,hw.sub _ _ hF6,h7,h8⟩ ?_);rw [hb];refine ay (fA (scope:=sc) RF (fun x hx=>Ti _ (hE hx).1) (fun Q5 Sf WX=>?_) hk);have hx:fw s.heap.objs.size s.heap Q5:=fun b o hb e=>WX.extBut b o hb (aF _ e);have t1:=hw.SP (tk:=s.toks+(ps.zip vs).length) hx;have n0:=hw.QQ (bv s.heap);have kk:∀ b o,s.heap.get? b=some o->Q5.get? b=some o:=fun b o e=>hx b o (fun q=>by rw [q,bv] at e;cases e) e;refine ⟨?_,codeAny_func ?_⟩
 ·obtain ⟨mc,q1,q2⟩:=fx.SI;exact ⟨mc,q1.ns t1.ok.QB,q2⟩
 have R:Qq J W Q5 sc ⟨ps.zip ds,up,none⟩ (ng sc s.heap.objs.size bC cl (q++".<locals>.") (some f) (.ref c') none bU) []:=by
  refine AU hk Ug Sf hd (fun x d e _=>e) RF (fun x d e=>?_) (fun x e=>?_) Xh ⟨n0.1,n0.2.1,n0.2.2,(by obtain ⟨o,_,_,e,_⟩:=Sf;exact ⟨o,e⟩)⟩ (fun p hp=>?_) S6
  ·obtain ⟨c,v,z1,z2,z3⟩:=Yh x d e;exact ⟨c,v,z1,IsCell.keep z2 (kk c),z3⟩
  ·obtain ⟨c,v,z1,z2⟩:=Vs x e;exact ⟨c,v,z1,IsCell.keep z2 (kk c)⟩
  ·obtain ⟨z1,z2,o,z3⟩:=Sr p hp;exact ⟨fun e=>(by rw [e,bv] at z3;cases z3),z1,z2,o,kk _ _ z3⟩
 refine af (h _ _ rfl ⟨t1,R,bv _,fun x e=>RF _ (al e) rfl⟩) (fun fl s' hq=>hq) fun _ _ f=>f.elim
structure S8 (J:Cx) (sc:aX) (q:Str) (params:dD) (body:List Stmt) (f c':Addr) (doc pm QW:ag) (cl:List (Str×Addr)) (up:Qr) (W:Wd) (s:ah):Prop where
 hF:s.heap.get? f=some (dQ "inner" q params body sc cl doc pm c' QW)
 Z6:Apart J W s.heap f
 RH:QA W.F (.ref c') q
 cells:∀ x d,up.lookup x=some d->∃ c v,cl.lookup x=some c/\s.heap.IsCell c (some v)/\Rd J W.F W.as d v/\Apart J W s.heap c
 keys:∀ p∈cl,∃ d,up.lookup p.1=some d/\cl.lookup p.1=some p.2
 inj:∀ x y c,cl.lookup x=some c->cl.lookup y=some c->x=y
variable {q:Str} {params:dD} {body:List Stmt} {f c':Addr} {doc pm QW:ag} {cl:List (Str×Addr)} {up:Qr}
theorem QA.mono:∀ {F F':PM} {cd:ag} (h:PM.le F F') (x:QA F cd q),QA F' cd q:=by iterate 5 obtain ⟨c,o,vs,t,e,g,r⟩:=x;exact ⟨c,o,vs,t,e,h _ _ g,r⟩
theorem S8.Wf:∀ (C:S8 J sc q params body f c' doc pm QW cl up W s) (t:Qp J X W s W' s') (hf:f∉X) (hX:∀ x c,cl.lookup x=some c->c∉X),S8 J sc q params body f c' doc pm QW cl up W' s':=by iterate 4 refine ⟨C.Z6.at t hf _ C.hF,C.Z6.keep t,C.RH.mono t.le,fun x d e=>?_,C.keys,C.inj⟩;obtain ⟨c,v,h1,h2,h3,h4⟩:=C.cells x d e;exact ⟨c,v,h1,IsCell.keep h2 (h4.at t (hX x c h1)),h3.mono t.le t.as,h4.keep t⟩
theorem S8.step:∀ (C:S8 J sc q params body f c' doc pm QW cl up W s) (t:Qp J [] W s W' s') (_h:True),S8 J sc q params body f c' doc pm QW cl up W' s':=by iterate 3 exact (C.Wf t (by simp) (by simp))
theorem S8.enter:∀ {ps:List Str} {ds:List D} {vs:List ag} {Q:ag->ah->Prop} (fx:Fx J) (C:S8 J sc q params body f c' doc pm QW cl up W s) (hb:iD (mS "inner" q params body sc cl .none .none doc pm none (.ref c') QW) ⟨vs,[]⟩=pure (ps.zip vs)) (Ti:∀ x∈ps,sc.names.lookup x=some .local) (Ug:db ps=true) (RF:∀ x:Str×eN,x∈sc.names->x.2≠ .cell) (hk:sc.kind= .function) (YR:sc.isCoroutine=false) (UD:sc.isGenerator=false) (YM:∀ x,sc.names.lookup x=some .free->(up.lookup x).isSome=true) (S6:∀ x,(up.lookup x).isSome=true->sc.names.lookup x=some .free) (hd:Qt J W.F W.as ds vs) (hw:Qs J W s) (hA:A.depth<cw) (h:∀ env Ql,env.cells=cl->FS J [] W s sc env ⟨ps.zip ds,up,none⟩ W Ql->S8 J sc q params body f c' doc pm QW cl up W Ql->aD (aC P0 J.w) (A.deeper env) (gg body env) (fun f s'=>Q (match f with | .ret v=>v | _=> .none) s') (fun _ _=>False) Ql),aD (aC P0 J.w) A (call (.ref f) vs) Q (fun _ _=>False) s:=by iterate 19
 refine Ef fx C.hF C.RH hb Ti Ug RF hk YR UD (fun x d e=>?_) (fun x e=>?_) C.inj (fun p hp=>?_) (fun x c e=>?_) hd hw hA (fun env Ql hec F=>h env Ql hec F (C.step F.tr trivial))
 ·obtain ⟨c,v,h1,h2,h3,_⟩:=C.cells x d e;exact ⟨c,v,h1,h2,h3⟩
 ·obtain ⟨d,hd⟩:=b6.mp (YM x e);obtain ⟨c,v,h1,h2,_⟩:=C.cells x d hd;exact ⟨c,_,h1,h2⟩
 ·obtain ⟨d,h1,h2⟩:=C.keys p hp;obtain ⟨c,v,h3,_,_,h4⟩:=C.cells _ d h1;rw [h2] at h3;cases h3;exact h4.2
 ·obtain ⟨d,h1,_⟩:=C.keys (x,c) (al e);exact S6 x (by rw [h1];rfl)
end
noncomputable def tj (l:List Int) (m L R:Nat):Int:=na ((l.drop L).take (R-L)) (2 ^ m)
theorem HM:∀ {l:List Int} {m L:Nat} {d:Int} (h:l[L]? =some d),tj l m L (L+1)=d:=by iterate 5 unfold tj;have hL:=(ak.mp h).1;rw [fY hL,show L+1-L=1 by omega];have:=(ak.mp h).2;rw [dh,List.take_zero];show l[L]+2 ^ m * 0=d;rw [this];simp
theorem Cg:∀ {b:Int},∀ (xs ys:List Int),na (xs++ys) b=na xs b+b ^ xs.length * na ys b:=by iterate 1 intro xs;induction xs with | nil=>intro ys;(dsimp only [na];simp) | cons x xs Qo=>intro ys;rw [bc];dsimp only [na];simp only [Qo ys,aI];rw [jQ,Int.pow_succ,eQ (b ^ xs.length) b,<-nN,kG]
theorem BV:∀ {l:List Int} {m L M R:Nat} (h1:L<=M) (h2:M<=R) (h3:R<=l.length),tj l m L R=tj l m M R * 2 ^ (m * (M-L))+tj l m L M:=by iterate 8
 unfold tj;have:(l.drop L).take (R-L)=(l.drop L).take (M-L)++(l.drop M).take (R-M):=by
  have e1:R-L=(M-L)+(R-M):=by omega
  rw [e1,List.take_add,mY,show L+(M-L)=M by omega]
 rw [this,Cg];have hl:((l.drop L).take (M-L)).length=M-L:=by simp;omega
 rw [hl,<-Int.pow_mul,lh,eQ]
theorem DW:∀ {m:Nat},∀ {l:List Int},(∀ d∈l,0<=d/\d<2 ^ m)->0<=na l (2 ^ m)/\na l (2 ^ m)<2 ^ (m * l.length):=by iterate 1
 intro l;induction l with
 | nil=>intro _;(dsimp only [na];simp)
 | cons d l Qo=>
  intro h;have h1:=h d (by simp);have h2:=Qo fun x hx=>h x (by simp [hx]);(dsimp only [na];simp only [aI]);have hp:(0:Int)<2 ^ m:=lO (by decide);have h3:=ir (jc hp) h2.1;refine ⟨by omega,?_⟩;have h4:na l (2 ^ m)+1<=2 ^ (m * l.length):=h2.2;have h5:=Int.mul_le_mul_of_nonneg_left h4 (jc hp);have h6:(2:Int) ^ (m * (l.length+1))=2 ^ m * 2 ^ (m * l.length):=by rw [jP,Nat.mul_one,Int.pow_add,eQ]
  rw [h6];rw [jQ] at h5;omega
theorem Ce:∀ {l:List Int} {m L R:Nat} (h:∀ d∈l,0<=d/\d<2 ^ m) (hR:R<=l.length) (QX:l.length * m<=60),0<=tj l m L R/\tj l m L R<2 ^ 60:=by iterate 7
 unfold tj;have:=DW (m:=m) (l:=(l.drop L).take (R-L)) fun d hd=>h d (eZ (cZ hd));refine ⟨this.1,Int.lt_of_lt_of_le this.2 ?_⟩;have hle:m * ((l.drop L).take (R-L)).length<=60:=by
  have:((l.drop L).take (R-L)).length<=l.length:=by rw [gK,ja];exact bw (Nat.min_le_right _ _) (Nat.sub_le _ _)
  calc m * _<=m * l.length:=Nat.mul_le_mul_left _ this
   _=l.length * m:=bE _ _
   _<=60:=QX
 exact_mod_cast a8 (by decide) hle
theorem BY:∀ {xs:List D},∀ {l:List Int},tg xs=some l->xs=l.map .int:=by iterate 1 induction xs with | nil=>intro l h;cases h;rfl | cons x xs ih=>intro l h;obtain ⟨i,h1,l',h2,h3⟩:=qO h;cases h3;rw [be h1,ih h2];rfl
noncomputable def qZ:aX:=(.mk .function [("L",.local),("R",.local),("mid",.local),("shift",.local),("digits",.free),("inner",.free),("n",.free)] false false [])
noncomputable def JR:dD:=(.mk [] [(.mk "L" none ⟨90,14,90,15⟩),(.mk "R" none ⟨90,17,90,18⟩)] none [] [] none [])
noncomputable def NI:Expr:=(.Compare (.BinOp (.Name "L" ⟨91,11,91,12⟩) .Add (.Constant (.int 1) 0 ⟨91,15,91,16⟩) ⟨91,11,91,16⟩) [.Eq] [(.Name "R" ⟨91,20,91,21⟩)] ⟨91,11,91,21⟩)
noncomputable def MC:Expr:=(.Subscript (.Name "digits" ⟨92,19,92,25⟩) (.Name "L" ⟨92,26,92,27⟩) ⟨92,19,92,28⟩)
noncomputable def L9:Expr:=(.BinOp (.BinOp (.Name "L" ⟨93,14,93,15⟩) .Add (.Name "R" ⟨93,18,93,19⟩) ⟨93,14,93,19⟩) .RShift (.Constant (.int 1) 0 ⟨93,23,93,24⟩) ⟨93,14,93,24⟩)
noncomputable def Lv:Expr:=(.BinOp (.BinOp (.Name "mid" ⟨94,17,94,20⟩) .Sub (.Name "L" ⟨94,23,94,24⟩) ⟨94,17,94,24⟩) .Mult (.Name "n" ⟨94,28,94,29⟩) ⟨94,16,94,29⟩)
noncomputable def Kb:List Expr:=[(.Name "mid" ⟨95,22,95,25⟩),(.Name "R" ⟨95,27,95,28⟩)]
noncomputable def Kf:List Expr:=[(.Name "L" ⟨95,48,95,49⟩),(.Name "mid" ⟨95,51,95,54⟩)]
noncomputable def HT:List Stmt:=[(.If NI [(.Return (some MC) ⟨92,12,92,28⟩)] [] ⟨91,8,92,28⟩),(.Assign [(.Name "mid" ⟨93,8,93,11⟩)] L9 ⟨93,8,93,24⟩),(.Assign [(.Name "shift" ⟨94,8,94,13⟩)] Lv ⟨94,8,94,29⟩),
 (.Return (some (.BinOp (.BinOp (.Call (.Name "inner" ⟨95,16,95,21⟩) Kb [] ⟨95,16,95,29⟩) .LShift (.Name "shift" ⟨95,33,95,38⟩) ⟨95,16,95,38⟩) .Add (.Call (.Name "inner" ⟨95,42,95,47⟩) Kf [] ⟨95,42,95,55⟩) ⟨95,15,95,55⟩)) ⟨95,8,95,55⟩)]
noncomputable def rV (l:List Int) (m:Nat) (f:Addr):Qr:=[("n",.int m),("inner",.raw f),("digits",.lst (l.map .int))]
theorem IB:∀ {a b:Int} (h:(lw b ||lw a)=true),binop .Mult (.int a) (.int b)=some (.int (a * b)):=by iterate 3 show (if (lw b ||lw a)=true then some (D.int (a * b)) else none)=_;exact if_pos h
theorem JY:∀ {a b:Int} (h0:0<=b) (h1:b<=1000000) (h2:lw a=true),binop .LShift (.int a) (.int b)=some (.int (a * 2 ^ b.toNat)):=by iterate 5 show (if 0<=b/\b<=1000000/\lw a=true then some (D.int (a * 2 ^ b.toNat)) else none)=_;exact if_pos ⟨h0,h1,h2⟩
theorem JW:∀ {a b:Int} (h0:0<=b),binop .RShift (.int a) (.int b)=some (.int (aL a (2 ^ b.toNat))):=by iterate 3 show (if 0<=b then some (D.int (aL a (2 ^ b.toNat))) else none)=_;exact if_pos h0
theorem Fu:∀ {a b:Int} (h0:b≠0) (h:lw b=true),binop .FloorDiv (.int a) (.int b)=some (.int (aL a b)):=by iterate 4 show (if b≠0/\lw b=true then some (D.int (aL a b)) else none)=_;exact if_pos ⟨h0,h⟩
section
variable {J:Cx} {A:bf} {W W0 W':Wd} {s s0 s1 s':ah} {X:List Addr} {sc:aX} {st:St} {env:Env}
variable {q:Str} {params:dD} {body:List Stmt} {f c':Addr} {doc pm QW:ag} {cl:List (Str×Addr)} {up:Qr}
theorem vB:∀ {sc':aX} {p pos:Pos} {args:List Expr} {ds:List D} {g1:G} {P:ag->Wd->ah->Prop} (Qw:Ok J 9) (er:Qq J W s.heap sc st env []) (hw:Qs J W s) (C:S8 J sc' q params body f c' doc pm QW cl up W s) (hv:varD sc st "inner" =some (.raw f)) (he:ceEs P0 9 sc st args W.H=some (ds,g1)) (hA:Qx 9 A) (Vt:∀ W1 s1 vs,Qp J [] W s W1 s1->W1.H=g1->Qt J W1.F W1.as ds vs->Ex J A (call (.ref f) vs) X W1 s1 P),Ex J A (eval (.Call (.Name "inner" p) args [] pos) env) X W s P:=by iterate 15
 obtain ⟨v,Sj,r1⟩:=er.vars "inner" _ hv;dsimp only [Rd] at r1;subst r1;obtain ⟨e1,e2,e3⟩:=Qw.es (pos:=pos) he rfl hw er hA;refine bH (bq (cr Sj er.kind (by decide) ?_) (by decide));refine c9 (P:=eH f) (by rw [e1];rfl) (fun h=>cX h) (pE e1 (Ex.into e3 fun vs W1 s1 k1 y0=>?_));obtain ⟨Ra,rv⟩:=y0;refine ⟨?_,?_⟩
 ·exact ⟨_,_,_,_,(C.step k1 trivial).hF⟩
 ·exact Ex.into (Vt W1 s1 vs k1 Ra rv) fun v W2 s2 k2 r2=>⟨W2,k1.Sy k2,r2⟩
noncomputable def OL (J:Cx) (q:Str) (f c':Addr) (doc pm QW:ag) (cl:List (Str×Addr)) (l:List Int) (m j:Nat):Prop:=∀ {A:bf} {W:Wd} {s:ah} {L R:Nat} {tL tR:Tok},
  S8 J qZ q JR HT f c' doc pm QW cl (rV l m f) W s->Qs J W s->L<R->R<=l.length->R-L<=2 ^ j->Qx (j+10) A->Ex J A (call (.ref f) [.int L tL,.int R tR]) [] W s (li J (.int (tj l m L R)) W.H)
theorem AG:∀ {l:List Int} {m:Nat} (fx:Fx J) (Qw:Ok J 9) (hb:∀ d∈l,0<=d/\d<2 ^ m) (QX:l.length * m<=60) (hlen:l.length<=lim) (j:Nat) (ih:∀ j',j=j'+1->OL J q f c' doc pm QW cl l m j'),OL J q f c' doc pm QW cl l m j:=by iterate 9
 intro A W s L R tL tR C hw hLR hR hj hA;refine C.enter fx (ps:=["L","R"]) (ds:=[.int L,.int R]) (by rfl') (by decide) (by decide) (by decide) rfl rfl rfl ?_ ?_ (by dsimp only [Qt,Rd];exact ⟨_,_,rfl,⟨tL,rfl⟩,_,_,rfl,⟨tR,rfl⟩,rfl⟩) hw (by have:=hA.2.1;omega) fun env Ql _ F C1=>?_
 ·intro x hx;have:=al hx;simp [qZ] at this;rcases this with rfl | rfl | rfl<;>rfl'
 ·intro x hx;obtain ⟨d,hd⟩:=b6.mp hx;have:=al hd;simp [rV] at this;rcases this with ⟨rfl,_⟩ | ⟨rfl,_⟩ | ⟨rfl,_⟩<;>rfl'
 have Q4:Qx (j+9) (A.deeper env):=hA.deeper;have TS:Qx 9 (A.deeper env):=Q4.le (by omega);unfold HT;have ht:ceT P0 9 qZ ⟨[("L",.int L),("R",.int R)],rV l m f,none⟩ NI W.H=some (((L:Int)+1==(R:Int)),W.H):=by rfl'
 refine ao (fC (Ex.into (Qw.t ht rfl F.tr.ok F.er TS) fun b W2 s2 k2 z1=>?_));obtain ⟨hbb,Sa⟩:=z1;subst hbb;have F2:=F.expr k2;have C2:=C1.step k2 trivial;by_cases Xa:L+1=R
 ·subst Xa;have hbt:((L:Int)+1==((L+1:Nat):Int))=true:=by simp
  rw [hbt,if_pos rfl];obtain ⟨d,hd⟩:∃ d,l[L]? =some d:=⟨_,au (by omega)⟩
  have hg:ceE P0 9 qZ ⟨[("L",.int L),("R",.int (L+1:Nat))],rV l m f,none⟩ MC W2.H=some (.int d,W2.H):=by
   have h1:ceE P0 9 qZ ⟨[("L",.int L),("R",.int (L+1:Nat))],rV l m f,none⟩ MC W2.H=(subD P0 (.lst (l.map .int)) (.int L)).bind fun d=>some (d,W2.H):=by rfl'
   rw [h1];show ((qx (.int (L:Int))).bind fun k=>(l.map D.int)[k]?).bind _=_;have hL:qx (.int (L:Int))=some L:=by show (if (0:Int)<=(L:Int) then some (Int.toNat (L:Int)) else none)=_;exact if_pos (az L)
   rw [hL];show ((l.map D.int)[L]?).bind _=_;rw [b8,hd];rfl
  refine ao (cm (Ex.into (Qw.e hg rfl F2.tr.ok F2.er TS) fun v W3 s3 k3 z2=>?_));obtain ⟨Sk,rv⟩:=z2;refine ⟨W3,F2.tr.Qn k3,Sk.trans Sa,?_⟩;rw [HM hd];exact rv
 ·have hbf:((L:Int)+1==(R:Int))=false:=by
   simp only [beq_eq_false_iff_ne];omega
  rw [hbf,if_neg aJ];refine aW ?_
  -- mid
  have TZ:ceE P0 9 qZ ⟨[("L",.int L),("R",.int R)],rV l m f,none⟩ L9 W2.H=some (.int ((L+R) / 2:Nat),W2.H):=by
   have h1:ceE P0 9 qZ ⟨[("L",.int L),("R",.int R)],rV l m f,none⟩ L9 W2.H=some (.int (aL ((L:Int)+(R:Int)) (2 ^ (1:Int).toNat)),W2.H):=by rfl'
   rw [h1,<-fy,aV _ (by decide)];rfl
  refine ao (bj (Ex.into (Qw.e TZ rfl F2.tr.ok F2.er TS) fun v W3 s3 k3 z3=>?_) rfl);obtain ⟨Sk,rv⟩:=z3;have F3:=F2.expr k3;refine af (F3.store (x:="mid") (d:= .int ((L+R) / 2:Nat)) (by decide) rfl rv) (fun _ s4 F4=>?_) fun _ _ f=>f;generalize hM:(L+R) / 2=M at F4 rv;have Y2:L<M:=by omega
  have YZ:M<R:=by omega
  -- shift
  have WV:ceE P0 9 qZ ((⟨[("L",.int L),("R",.int R)],rV l m f,none⟩:St).withRho [("mid",.int M),("L",.int L),("R",.int R)]) Lv W3.H=some (.int ((M-L) * m:Nat),W3.H):=by
   have h1:ceE P0 9 qZ ((⟨[("L",.int L),("R",.int R)],rV l m f,none⟩:St).withRho [("mid",.int M),("L",.int L),("R",.int R)]) Lv W3.H=(binop .Mult (.int ((M:Int)-L)) (.int m)).bind fun d=>some (d,W3.H):=by rfl'
   rw [h1];have hs:lw ((M:Int)-L)=true:=by unfold lw;unfold lim at hlen;simp only [decide_eq_true_eq];omega
   have:((M:Int)-L) * m=(((M-L) * m:Nat):Int):=by rw [da,nM (by omega)]
   show ((if (lw (m:Int) ||lw ((M:Int)-L))=true then some (D.int (((M:Int)-L) * m)) else none):Option D).bind _=_;rw [hs,fM,if_pos rfl,this];rfl
  refine ao (bj (Ex.into (Qw.e WV rfl F4.tr.ok F4.er TS) fun v W5 s5 k5 z4=>?_) rfl);obtain ⟨VZ,Zu⟩:=z4;have F5:=F4.expr k5;refine af (F5.store (x:="shift") (d:= .int ((M-L) * m:Nat)) (by decide) rfl Zu) (fun _ s6 F6=>?_) fun _ _ f=>f;have C6:S8 J qZ q JR HT f c' doc pm QW cl (rV l m f) W5 s6:=C.step F6.tr trivial;have g6:W5.H=W.H:=VZ.trans (Sk.trans Sa);obtain ⟨j',rfl⟩:∃ j',j=j'+1:=by cases j with | zero=>simp at hj;omega | succ j'=>exact ⟨j',rfl⟩
  have hp:2 ^ (j'+1)=2 * 2 ^ j':=by rw [fQ,bE]
  have Vy:Qx (j'+10) (A.deeper env):=Q4.le (by omega);have e1:ceEs P0 9 qZ ((⟨[("L",.int L),("R",.int R)],rV l m f,none⟩:St).withRho [("shift",.int ((M-L) * m:Nat)),("mid",.int M),("L",.int L),("R",.int R)]) Kb W5.H=some ([.int M,.int R],W5.H):=by rfl'
  refine ao (cm (hH (hH (Ex.into (vB (X:=[]) (P:=li J (.int (tj l m M R)) W5.H) Qw F6.er F6.tr.ok C6 (by rfl') e1 TS fun W7 s7 vs k7 YL Zt=>?_) fun v8 W8 s8 k8 ⟨ZN,r8⟩=>?_))))
  ·obtain ⟨va,vb,rfl,ra,rb⟩:=uF Zt;obtain ⟨ta,rfl⟩:=ra;obtain ⟨tb,rfl⟩:=rb;have:=ih j' rfl (tL:=ta) (tR:=tb) (C6.step k7 trivial) k7.ok YZ hR (by omega) Vy;rw [YL] at this;exact this
  ·have F8:=F6.expr k8;have C8:=C6.step k8 trivial;obtain ⟨vs,UQ,rs⟩:=F8.er.vars "shift" (.int ((M-L) * m:Nat)) (by rfl');have bd:=Ce (l:=l) (m:=m) (L:=M) (R:=R) hb hR QX;have bsh:(M-L) * m<=60:=bw (fg _ (by omega)) QX;refine bq (cr UQ F8.er.kind (by decide) ?_) (by decide);refine Ex.into (xk (X:=[]) (op:= .LShift) (d:= .int (tj l m M R * 2 ^ ((M-L) * m))) ?_ r8 rs F8.tr.ok) fun v9 W9 s9 k9 ⟨VY,r9⟩=>?_
   ·have hsm:lw (tj l m M R)=true:=by
     unfold lw;simp only [decide_eq_true_eq];have:=bd.1;have:=bd.2;omega
    show (if (0:Int)<=(((M-L) * m:Nat):Int)/\(((M-L) * m:Nat):Int)<=1000000/\lw (tj l m M R)=true then some (D.int (tj l m M R * 2 ^ (((M-L) * m:Nat):Int).toNat)) else none)=_;rw [if_pos ⟨by omega,by omega,hsm⟩];rfl
   ·have F9:=F8.expr k9;have C9:=C8.step k9 trivial;have g9:W9.H=W5.H:=VY.trans ZN;have e2:ceEs P0 9 qZ ((⟨[("L",.int L),("R",.int R)],rV l m f,none⟩:St).withRho [("shift",.int ((M-L) * m:Nat)),("mid",.int M),("L",.int L),("R",.int R)]) Kf W9.H=some ([.int L,.int M],W9.H):=by rfl'
    refine Ex.into (vB (X:=[]) (P:=li J (.int (tj l m L M)) W9.H) Qw F9.er F9.tr.ok C9 (by rfl') e2 TS fun W10 s10 vs Wj Vo aan=>?_) fun v11 TU s11 k11 ⟨abi,r11⟩=>?_
    ·obtain ⟨va,vb,rfl,ra,rb⟩:=uF aan;obtain ⟨ta,rfl⟩:=ra;obtain ⟨tb,rfl⟩:=rb;have:=ih j' rfl (tL:=ta) (tR:=tb) (C9.step Wj trivial) Wj.ok Y2 (by omega) (by omega) Vy;rw [Vo] at this;exact this
    ·have We:=F9.expr k11;refine Ex.into (xk (X:=[]) (op:= .Add) (d:= .int (tj l m L R)) ?_ (r9.mono k11.le k11.as) r11 We.tr.ok) fun v12 Wb s12 XO ⟨Xk,r12⟩=>?_
     ·rw [BV (M:=M) (fU Y2) (fU YZ) hR,bE m];rfl
     ·exact ⟨Wb,We.tr.Qn XO,Xk.trans (abi.trans (g9.trans g6)),r12⟩
theorem IM:∀ {l:List Int} {m:Nat} (fx:Fx J) (Qw:Ok J 9) (hb:∀ d∈l,0<=d/\d<2 ^ m) (QX:l.length * m<=60) (hlen:l.length<=lim) (j:Nat),OL J q f c' doc pm QW cl l m j:=by iterate 8
 induction j with
 | zero=>exact AG fx Qw hb QX hlen 0 fun _ e=>nomatch e
 | succ j ih=>exact AG fx Qw hb QX hlen (j+1) fun _ e=>cJ e▸ih
end
noncomputable def Le:aX:=(.mk .function [("digits",.cell),("n",.cell),("inner",.cell),("len",.globalImplicit)] false false [])
noncomputable def VB:Fn:=⟨["digits","n"],Le,
 [(.FunctionDef "inner" JR HT [] none [] qZ none "inner" ⟨90,4,95,55⟩),
  (.Return (some (.IfExp (.Name "digits" ⟨96,36,96,42⟩) (.Call (.Name "inner" ⟨96,11,96,16⟩) [(.Constant (.int 0) 0 ⟨96,17,96,18⟩),(.Call (.Name "len" ⟨96,20,96,23⟩) [(.Name "digits" ⟨96,24,96,30⟩)] [] ⟨96,20,96,31⟩)] [] ⟨96,11,96,32⟩) (.Constant (.int 0) 0 ⟨96,48,96,49⟩) ⟨96,11,96,49⟩)) ⟨96,4,96,49⟩)]⟩
theorem HB:pd P0 "_digits2int" =some VB:=by iterate 0 rfl'
section
variable {J:Cx} {A:bf} {W W0 W':Wd} {s s0 s1 s':ah} {X:List Addr} {sc VM:aX} {st:St} {env:Env}
variable {q:Str} {params:dD} {body:List Stmt} {f c':Addr} {doc pm QW:ag} {cl:List (Str×Addr)} {up:Qr}
theorem S8.of:∀ (R:Qq J W s.heap VM st env []) (hF:s.heap.get? f=some (dQ "inner" q params body sc cl doc pm c' QW)) (Z6:Apart J W s.heap f) (RH:QA W.F (.ref c') q) (Sr:∀ p∈cl,env.cells.lookup p.1=some p.2/\cl.lookup p.1=some p.2/\(up.lookup p.1).isSome=true) (Yh:∀ x d,up.lookup x=some d->VM.names.lookup x=some .cell/\varD VM st x=some d/\∃ c,(x,c)∈cl),S8 J sc q params body f c' doc pm QW cl up W s:=by iterate 6
 have lk:∀ x c,cl.lookup x=some c->env.cells.lookup x=some c:=fun x c e=>(Sr _ (al e)).1;refine ⟨hF,Z6,RH,fun x d e=>?_,fun p hp=>?_,fun x y c h1 h2=>R.inj x y c (lk _ _ h1) (lk _ _ h2)⟩
 ·obtain ⟨h1,h2,c,h3⟩:=Yh x d e;obtain ⟨z1,z2,_⟩:=Sr _ h3;obtain ⟨v,hv,rv⟩:=R.vars x d h2;have hk:env.kindOf x=some .cell:=by
   rcases R.kd x .cell h1 with k | ⟨k,_⟩
   ·exact k
   ·cases k
  rcases hv with ⟨k,_⟩ | ⟨_,c2,h5,h6⟩
  ·rw [hk] at k;cases k
  ·rw [z1] at h5;cases h5;have z:=R.apart c (aE _ (av _ (aH.mpr ⟨_,al z1,rfl⟩)));exact ⟨c,v,z2,h6,rv,R.VC z1 hk,z.2⟩
 ·obtain ⟨_,z2,z3⟩:=Sr p hp;obtain ⟨d,hd⟩:=b6.mp z3;exact ⟨d,hd,z2⟩
theorem ze:∀ {T:Tr} {B:Bs} {pos:Pos} {cl:List (Str×Addr)} {Q:Flow->ah->Prop} (tx:Tx J) (hT:T∈J.tabs) (R:Run J W0 s0 B VM env st [] W s) (RA:params.defaults=[]) (YH:params.kw_defaults=[]) (ha:annTrees params none env=[]) (Rb:env.code= .ref T.c) (Rz:pos=T.pos) (hq:nG env "inner" "inner" =T.q) (To:eX sc env=pure cl) (ZL:pP VM "inner" =true) (TH:oS st "inner" =true) (hQ:∀ f c' doc pm QW W' s',Run J W0 s0 B VM env (st.withRho (("inner",.raw f)::st.ρ)) [] W' s'->W'.H=W.H->s'.heap.get? f=some (dQ "inner" T.q params body sc cl doc pm c' QW)->Apart J W' s'.heap f->QA W'.F (.ref c') T.q->s.heap.get? f=none->Q .next s'),aD (aC P0 J.w) A (exec (.FunctionDef "inner" params body [] none [] sc none "inner" pos) env) Q (fun _ _=>False) s:=by iterate 18 refine PySem.W.nestDef_K RA YH ha (NN tx hT To R.R.glob Rb Rz hq R.ok fun f c' doc pm QW W' s' MF=>?_);obtain ⟨t,g,nf,hf,RH,s2,t1,nf2,t2⟩:=MF;have R1:=R.expr t;have n2:=t1.ok.QQ nf2;have ff:f∉am env:=fun hm=>R.Q2 nf (aE _ hm);refine af (R1.store (x:="inner") (v:= .ref f) (d:= .raw f) ZL TH (by dsimp only [Rd])) (fun _ s3 z0=>?_) fun _ _ f=>f;obtain ⟨k,R3⟩:=z0;rw [hq] at hf RH;have hf3:=xb k n2 ff hf;exact hQ f c' doc pm QW W' s3 R3 g hf3 ⟨n2.1,n2.2.1,n2.2.2,_,hf3⟩ RH nf
end
section
variable {J:Cx} {A:bf} {W W0 W':Wd} {s s0 s1 s':ah} {X:List Addr} {sc VM:aX} {st:St} {env:Env}
theorem wV:∀ {x:Str} {d:D} (R:Qq J W s.heap sc st env []) (h1:sc.names.lookup x=some .cell) (h2:varD sc st x=some d),∃ c,env.cells.lookup x=some c:=by iterate 5
 obtain ⟨v,hv,_⟩:=R.vars x d h2;rcases hv with ⟨k,_⟩ | ⟨_,c,h5,_⟩
 ·rcases R.kd x .cell h1 with q | ⟨q,_⟩
  ·rw [q] at k;cases k
  ·cases q
 ·exact ⟨c,h5⟩
theorem xi:∀ {fd:eO} {L a:Addr} {f:Str} (R:Qq J W s.heap sc st env []) (h1:sc.names.lookup ("inner" :Str)=some fV) (he:env=fc fd L a) (hq:fd.qualname=f),nG env "inner" "inner" =f++".<locals>." ++"inner" :=by iterate 8
 unfold nG;rcases R.kd "inner" .cell h1 with q | ⟨q,_⟩
 ·rw [q,if_neg (by decide),he,<-hq];rfl
 ·cases q
theorem Mj:∀ {x:Str} {p1 p2 pos:Pos} {xs:List D} (fx:Fx J) (R:Qq J W s.heap sc st env []) (hw:Qs J W s) (hg:qb sc "len" =true) (hx:mt x=true) (hv:varD sc st x=some (.lst xs)),Ex J A (eval (.Call (.Name "len" p1) [(.Name x p2)] [] pos) env) [] W s (li J (.int xs.length) W.H):=by iterate 11 obtain ⟨v,Sj,r1⟩:=R.vars x _ hv;have cf:=pB fx (f:="len") (by decide);refine bH (bk R.kind (R.global hg) (cf.1.load R hw ?_) (by decide));refine pk (first:=[]) cf (by rfl) ?_;refine aR (bq (cr Sj R.kind hx ?_) (oP hx).1) rfl;refine aZ ⟨hw.QB,?_⟩;exact yQ (ds:=[.lst xs]) rfl (Qt.one r1) hw
theorem DN:∀ {x:Str} {p:Pos} {xs:List D} {Q:Bool->ah->Prop} (R:Qq J W s.heap sc st env []) (hw:Qs J W s) (hx:mt x=true) (hv:varD sc st x=some (.lst xs)) (hq:∀ tk,Q (!xs.isEmpty) {s with toks:=tk}),aD (aC P0 J.w) A (jT (.Name x p) env (eval (.Name x p) env)) Q (fun _ _=>False) s:=by iterate 9
 obtain ⟨v,Sj,r1⟩:=R.vars x _ hv;obtain ⟨hl,a1,ws,n1,s1,rfl,e1,r⟩:=io r1;refine dP (bq (cr Sj R.kind hx ?_) (oP hx).1) rfl;have l1:=r.length;refine nA (items:=ws.toArray) ⟨_,hw.sub _ _ e1,rfl,n1,rfl⟩ ?_ ?_
 ·unfold lim at hl;simp only [a7];omega
 ·have:ws.toArray.isEmpty=xs.isEmpty:=by cases ws<;>cases xs<;>simp at l1 ⊢
  rw [this];exact hq _
theorem Ez:∀ {ds:List D} {g g':G} {d:D} (fx:Fx J) (tx:Tx J) (Qw:Ok J 9) (tf:xQ J "_digits2int" "_digits2int.<locals>.inner" ⟨90,4,95,55⟩) (h:qN ds g=some (d,g')),∃ fv,pV J "_digits2int" fv/\∀ {A W s vs},Qx 30 A->W.H=g->Qt J W.F W.as ds vs->Qs J W s->Ex J A (call fv vs) [] W s (li J d g'):=by iterate 9
 obtain ⟨T,hT,YX,YY,mg,mb,a,o,fd,UC,Yz,YA,hF,Wu,Rb,XR,QE⟩:=tf;have QE:=QE _ HB;refine ⟨.ref a,uu UC Yz YA QE,fun {A W s vs} hA hg hd hw=>?_⟩;replace h:=Aa h;obtain ⟨⟨d0,d1⟩,h1,xs,h2,m,h3,l,hl,h⟩:=h;cases rB h1;cases pu h2;cases be h3;split at h;rotate_left
 ·cases h
 rename_i hc;cases h;obtain ⟨hm,hlm,QD⟩:=hc;obtain ⟨m,rfl⟩:=eE (show 0<=m by omega);rw [aP] at *;have hxs:=BY hl;subst hxs;have hb:∀ d∈l,0<=d/\d<2 ^ m:=fun d hd=>by simpa using aj.mp QD d hd
 have aa4:l.length<=60:=bw (gG _ (by omega)) hlm;have hlen:l.length<=lim:=by unfold lim;omega
 refine eV (vo (ds:=[.lst (l.map .int),.int m]) fx QE rfl (by have:=hA.2.1;omega) hd hw fun env Ql R z0=>?_);obtain ⟨o',fd',Wy,TL,Tn⟩:=z0;rw [hF] at Wy;cases Wy;rw [Wu] at TL;cases TL;have Q4:Qx 29 (A.deeper env):=hA.deeper;show aD _ _ (gg VB.body env) _ _ _;unfold VB;obtain ⟨cd,RH⟩:=wV R.R (x:="digits") (d:= .lst (l.map .int)) (by rfl') (by rfl');obtain ⟨cn,Wx⟩:=wV R.R (x:="n") (d:= .int m) (by rfl') (by rfl');obtain ⟨ci,vi,VI,_⟩:=R.R.cells "inner" (by rfl');have To:eX qZ env=pure [(("n" :Str),cn),("inner",ci),("digits",cd)]:=by
  have:=sR (scope:=qZ) (env:=env) fun y hy=>by
   simp [qZ] at hy;rcases hy with rfl | rfl | rfl
   ·exact ⟨_,RH⟩
   ·exact ⟨_,VI⟩
   ·exact ⟨_,Wx⟩
  rw [this];congr 1;show [(("n" :Str),(env.cells.lookup ("n" :Str)).getD 0),("inner",(env.cells.lookup ("inner" :Str)).getD 0),("digits",(env.cells.lookup ("digits" :Str)).getD 0)]=_;rw [Wx,VI,RH];rfl
 refine ao (ze tx hT R rfl rfl (by rfl') (by rw [Tn];exact Rb) YY.symm (by rw [xi R.R (by rfl') Tn XR,YX];rfl') To (by rfl') rfl fun f c' doc pm QW W6 s6 R6 g6 hf6 ap6 Xq _=>?_);have C6:S8 J qZ T.q JR HT f c' doc pm QW [(("n" :Str),cn),("inner",ci),("digits",cd)] (rV l m f) W6 s6:=by
  refine S8.of R6.R hf6 ap6 Xq (fun p hp=>?_) (fun x d e=>?_)
  ·simp only [aq,aO,or_false] at hp;rcases hp with rfl | rfl | rfl
   ·exact ⟨Wx,by rfl',by rfl'⟩
   ·exact ⟨VI,by rfl',by rfl'⟩
   ·exact ⟨RH,by rfl',by rfl'⟩
  ·have z:=al e;simp only [rV,aq,aO,or_false,cR] at z;rcases z with ⟨rfl,rfl⟩ | ⟨rfl,rfl⟩ | ⟨rfl,rfl⟩
   ·exact ⟨by rfl',by rfl',cn,by simp⟩
   ·exact ⟨by rfl',by rfl',ci,by simp⟩
   ·exact ⟨by rfl',by rfl',cd,by simp⟩
 refine ao (cm (wpAny_IfExp (DN (xs:=l.map .int) R6.R R6.ok (by decide) (by rfl') fun tk=>?_)));have k7:=Qp.toks (X:=[]) (tk:=tk) R6.ok;have R7:=R6.expr k7;subst hg;have g7:W6.H=W.H:=g6;cases l with
 | nil=>rw [if_neg (by simp)];refine bO ?_;exact ⟨W6,R6.tr.Qn (Qp.toks R6.ok),g7,by dsimp only [Rd];exact ⟨_,rfl⟩⟩
 | cons d0 l0=>
  rw [if_pos (by simp)];obtain ⟨v,Sj,r1⟩:=R7.R.vars "inner" (.raw f) (by rfl');dsimp only [Rd] at r1;subst r1;have C7:=C6.step k7 trivial;refine bH (bq (cr Sj R7.R.kind (by decide) ?_) (by decide));refine c9 (P:=eH f) rfl (fun h=>cX h) (pE rfl ?_);refine aR (bO ?_) rfl;have k8:Qp J [] W6 {s6 with toks:=tk} W6 {s6 with toks:=tk+1}:=Qp.toks R7.ok;have R8:=R7.expr k8;refine aR (Ex.into (Mj fx (xs:=(d0::l0).map .int) R8.R R8.ok (by rfl') (by decide) (by rfl')) fun vl W9 s9 k9 z1=>?_) rfl;obtain ⟨VY,rl⟩:=z1;dsimp only [Rd] at rl;obtain ⟨tl,rfl⟩:=rl;have C9:=(C7.step k8 trivial).step k9 trivial;refine aZ ⟨⟨_,_,_,_,C9.hF⟩,?_⟩;have R9:=R8.expr k9;have:=IM fx Qw hb hlm hlen 6 (L:=0) (R:=(d0::l0).length) (tL:=tk) (tR:=tl) C9 R9.ok (by simp) (bN _) (by omega) (Q4.le (by omega));have YB:((nr D.int (d0::l0)).length:Int)=(((d0::l0).length:Nat):Int):=by simp
  rw [YB];refine Ex.into this fun v W10 s10 Wj y0=>?_;obtain ⟨Vo,r10⟩:=y0;refine ⟨W10,R9.tr.Qn Wj,Vo.trans (VY.trans g7),?_⟩;have hdv:tj (d0::l0) m 0 (d0::l0).length=na (d0::l0) (2 ^ m):=by unfold tj;simp
  rw [<-hdv];exact r10
end
set_option maxRecDepth 100000
section
variable {J:Cx} {A:bf} {W W0 W':Wd} {s s0 s1 s':ah} {X:List Addr} {sc VM:aX} {st:St} {env:Env}
theorem Qg:∀ {x:Int} (h0:0<=x) (h:x<=1000),¬(!Builtin.List.listFitsIndex x)=true:=by iterate 3 simp [oM];omega
theorem Qe:∀ {items:Array ag} {x:Int} (h:items.size * x.toNat<=1000),¬items.size * x.toNat > (2 ^ 63-1) / 8:=by iterate 3 omega
theorem Qf:∀ {items:Array ag} {x:Int} (h:items.size * x.toNat<=1000),¬cT (items.size * x.toNat)=true:=by iterate 3 simp [cT,dw];omega
theorem GC:∀ {l:Addr} {items:Array ag} {k:Nat} {x:Int} {u:Tok} {Q:ag->ah->Prop} {E:ag->ah->Prop} (hl:s.heap.get? l=some {cls:= .type "list",dict:=none,data:= .seq items k,slots:=#[]}) (h0:0<=x) (hx:x<=1000) (Ru:items.size * x.toNat<=1000) (h:Q (.ref s.heap.objs.size) {s with heap:=s.heap.push {cls:= .type "list",data:= .seq (List.foldl (fun x1 x2=>x1++x2) #[] (d6 (if items.isEmpty=true then 0 else x.toNat) items))}}),aD (aC P0 J.w) A (binaryOp .Mult (.ref l) (.int x u)) Q E s:=by iterate 12
 exact (wpAny_binaryOp_repeat_ref (T:="list") (U:="int") (by decide) ⟨_,hl,rfl⟩ (fun s'=>typeIs_int s' x u) noFill_list_mul F.fills_int_mul nO repeat_list F.slot_int_index.lookup
  (iC nO (typeIs_int s x u) F.entry_int_rmul (F.args_int_rmul_2 _ _) (int___rmul___int_list x u l items k)
   ⟨hl,rfl,⟨_,hl,rfl⟩,iC F.slot_list_mul ⟨_,hl,rfl⟩ F.entry_list_mul (F.args_list_mul_2 _ _) (AutoListH.list___mul___list_int_3 l items k x u (Qg h0 hx) (Qe Ru) (Qf Ru)) ⟨hl,h⟩⟩))
end
theorem zZ:∀ {b:Nat},∀ (k a i:Nat),i<k->(pH k b a)[i]? =some ((a / b ^ i % b:Nat):Int):=by iterate 1
 intro k;induction k with
 | zero=>exact fun _ _ h=>absurd h (mV _)
 | succ k Qo=>intro a i h;cases i with | zero=>dsimp only [pH];simp | succ i=>dsimp only [pH];simp only [cL];rw [Qo (a / b) i (by omega),kJ,fQ,bE b]
theorem sO:∀ {b:Nat},∀ (k a:Nat),(pH k b a).length=k:=by iterate 1 intro k;induction k with | zero=>intro _;exact rfl | succ k Qo=>intro a;(dsimp only [pH];simp [Qo])
theorem Jr:∀ (x k:Nat),Builtin.bitXor (x:Int) ((x / 2 ^ k * 2 ^ k:Nat):Int)=((x % 2 ^ k:Nat):Int):=by iterate 2
 rw [bitXor_and];have h1:ju (x:Int) ((x / 2 ^ k * 2 ^ k:Nat):Int)=((x / 2 ^ k * 2 ^ k:Nat):Int):=by
  unfold ju;rw [decide_eq_true (az _),decide_eq_true (az _)];dsimp only;rw [aP,aP];congr 1;apply Nat.eq_of_testBit_eq;intro i;rw [Nat.testBit_and];have:x / 2 ^ k * 2 ^ k=(x >>> k)<<<k:=by rw [Nat.shiftLeft_eq,Nat.shiftRight_eq_div_pow]
  rw [this,Nat.testBit_shiftLeft,Nat.testBit_shiftRight];by_cases h:k<=i
  ·simp [h,iA h]
  ·simp [h]
 rw [h1];have:=eB x (2 ^ k);rw [bE] at this;omega
theorem Ij:∀ {x m i K:Nat} (h:i<K),x % 2 ^ (K * m) / 2 ^ (m * i) % 2 ^ m=x / 2 ^ (m * i) % 2 ^ m:=by iterate 5
 have e:2 ^ (K * m)=2 ^ (m * i) * 2 ^ (m * (K-i)):=by rw [<-lK,<-jP,iA (fU h),bE]
 rw [e,Nat.mod_mul_right_div_self];have:2 ^ m ∣ 2 ^ (m * (K-i)):=Nat.pow_dvd_pow 2 (gG _ (by omega));rw [Nat.mod_mod_of_dvd _ this]
theorem FT:∀ {x m i K:Nat} (h:K<=i),x / 2 ^ (K * m) / 2 ^ (m * (i-K)) % 2 ^ m=x / 2 ^ (m * i) % 2 ^ m:=by iterate 5 rw [kJ,<-lK];congr 3;rw [bE K m,<-jP,iA h]
noncomputable def qp:aX:=(.mk .function [("x",.local),("L",.local),("R",.local),("mid",.local),("shift",.local),("upper",.local),("lower",.local),("a_digits",.free),("inner",.free),("n",.free)] false false [])
noncomputable def Iz:dD:=(.mk [] [(.mk "x" none ⟨75,14,75,15⟩),(.mk "L" none ⟨75,17,75,18⟩),(.mk "R" none ⟨75,20,75,21⟩)] none [] [] none [])
noncomputable def NC:Expr:=(.Compare (.BinOp (.Name "L" ⟨76,11,76,12⟩) .Add (.Constant (.int 1) 0 ⟨76,15,76,16⟩) ⟨76,11,76,16⟩) [.Eq] [(.Name "R" ⟨76,20,76,21⟩)] ⟨76,11,76,21⟩)
noncomputable def Li:Expr:=(.BinOp (.BinOp (.Name "L" ⟨79,14,79,15⟩) .Add (.Name "R" ⟨79,18,79,19⟩) ⟨79,14,79,19⟩) .RShift (.Constant (.int 1) 0 ⟨79,23,79,24⟩) ⟨79,14,79,24⟩)
noncomputable def L5:Expr:=(.BinOp (.BinOp (.Name "mid" ⟨80,17,80,20⟩) .Sub (.Name "L" ⟨80,23,80,24⟩) ⟨80,17,80,24⟩) .Mult (.Name "n" ⟨80,28,80,29⟩) ⟨80,16,80,29⟩)
noncomputable def LU:Expr:=(.BinOp (.Name "x" ⟨81,16,81,17⟩) .RShift (.Name "shift" ⟨81,21,81,26⟩) ⟨81,16,81,26⟩)
noncomputable def Lz:Expr:=(.BinOp (.Name "upper" ⟨82,20,82,25⟩) .LShift (.Name "shift" ⟨82,29,82,34⟩) ⟨82,20,82,34⟩)
noncomputable def Kq:List Expr:=[(.Name "lower" ⟨83,14,83,19⟩),(.Name "L" ⟨83,21,83,22⟩),(.Name "mid" ⟨83,24,83,27⟩)]
noncomputable def Kw:List Expr:=[(.Name "upper" ⟨84,14,84,19⟩),(.Name "mid" ⟨84,21,84,24⟩),(.Name "R" ⟨84,26,84,27⟩)]
noncomputable def Gm:List Stmt:=[(.If NC [(.Assign [(.Subscript (.Name "a_digits" ⟨77,12,77,20⟩) (.Name "L" ⟨77,21,77,22⟩) ⟨77,12,77,23⟩)] (.Name "x" ⟨77,26,77,27⟩) ⟨77,12,77,27⟩),(.Return none ⟨78,12,78,18⟩)] [] ⟨76,8,78,18⟩),
 (.Assign [(.Name "mid" ⟨79,8,79,11⟩)] Li ⟨79,8,79,24⟩),(.Assign [(.Name "shift" ⟨80,8,80,13⟩)] L5 ⟨80,8,80,29⟩),(.Assign [(.Name "upper" ⟨81,8,81,13⟩)] LU ⟨81,8,81,26⟩),
 (.Assign [(.Name "lower" ⟨82,8,82,13⟩)] (.BinOp (.Name "x" ⟨82,16,82,17⟩) .BitXor Lz ⟨82,16,82,34⟩) ⟨82,8,82,34⟩),
 (.Expr (.Call (.Name "inner" ⟨83,8,83,13⟩) Kq [] ⟨83,8,83,28⟩) ⟨83,8,83,28⟩),(.Expr (.Call (.Name "inner" ⟨84,8,84,13⟩) Kw [] ⟨84,8,84,28⟩) ⟨84,8,84,28⟩)]
noncomputable def ro (m:Nat) (f p:Addr):Qr:=[("n",.int m),("inner",.raw f),("a_digits",.raw p)]
structure Seg (m:Nat) (vs SX:Array ag) (L R x:Nat):Prop where
 size:SX.size=vs.size
 out:∀ i,i<L\/R<=i->SX[i]? =vs[i]?
 at_:∀ i,L<=i->i<R->∃ t,SX[i]? =some (.int ((x / 2 ^ (m * (i-L)) % 2 ^ m:Nat):Int) t)
theorem Seg.one:∀ {m:Nat} {vs:Array ag} {L x:Nat} {t:Tok} (hL:L<vs.size) (hx:x<2 ^ m),Seg m vs (vs.setIfInBounds L (.int (x:Int) t)) L (L+1) x:=by iterate 7
 exact {
  size:=by simp
  out i h:=by rw [jd,if_neg (by omega)]
  at_ i h1 h2:=by
   obtain rfl:i=L:=by omega
   refine ⟨t,?_⟩;rw [jd,if_pos rfl,if_pos hL];simp [gM hx]}
theorem Seg.join:∀ {m:Nat} {vs Zo Zn:Array ag} {L M R x:Nat} (h1:Seg m vs Zo L M (x % 2 ^ ((M-L) * m))) (h2:Seg m Zo Zn M R (x / 2 ^ ((M-L) * m))) (Y2:L<=M) (YZ:M<=R),Seg m vs Zn L R x:=by iterate 12
 exact {
  size:=h2.size.trans h1.size
  out i h:=by rw [h2.out i (by omega),h1.out i (by omega)]
  at_ i hl hr:=by
   by_cases hm:i<M
   ·rw [h2.out i (by omega)];obtain ⟨t,e⟩:=h1.at_ i hl hm;rw [Ij (by omega)] at e;exact ⟨t,e⟩
   ·obtain ⟨t,e⟩:=h2.at_ i (by omega) hr;refine ⟨t,?_⟩;have z:=FT (x:=x) (m:=m) (i:=i-L) (K:=M-L) (by omega);rw [show i-L-(M-L)=i-M by omega] at z;rw [z] at e;exact e}
section
variable {J:Cx} {A:bf} {W W0 W':Wd} {s s0 s1 s':ah} {X:List Addr} {sc:aX} {st:St} {env:Env}
variable {q:Str} {params:dD} {body:List Stmt} {f c':Addr} {doc pm QW:ag} {cl:List (Str×Addr)} {up:Qr}
theorem As:∀ {F:PM} {as:List Addr} {a b c:D} {vs:List ag} (h:Qt J F as [a,b,c] vs),∃ x y z,vs=[x,y,z]/\Rd J F as a x/\Rd J F as b y/\Rd J F as c z:=by iterate 7 dsimp only [Qt] at h;obtain ⟨x,r,rfl,h1,y,r2,rfl,h2,z,r3,rfl,h3,rfl⟩:=h;exact ⟨x,y,z,rfl,h1,h2,h3⟩
theorem FS.inter:∀ (F:FS J X W0 s0 sc env st W s),kA env=false:=by iterate 1 unfold kA;rw [F.er.kind];rfl
noncomputable def OM (J:Cx) (m:Nat) (p:Addr) (vs:Array ag) (L R x:Nat) (g:G):ag->Wd->ah->Prop:=fun v W' s'=>v= .none/\W'.H=g/\∃ SX,bS s'.heap p SX/\Seg m vs SX L R x
noncomputable def Pq (J:Cx) (q:Str) (f c':Addr) (doc pm QW:ag) (cl:List (Str×Addr)) (m:Nat) (p:Addr) (j:Nat):Prop:=∀ {A:bf} {W:Wd} {s:ah} {vs:Array ag} {L R x:Nat} {tx tL tR:Tok},
  S8 J qp q Iz Gm f c' doc pm QW cl (ro m f p) W s->Qs J W s->f≠p->(∀ x c,cl.lookup x=some c->c≠p)->Apart J W s.heap p->bS s.heap p vs->L<R->R<=vs.size->vs.size<=60->x<2 ^ (m * (R-L))->x<2 ^ 60->R-L<=2 ^ j->Qx (j+10) A->Ex J A (call (.ref f) [.int x tx,.int L tL,.int R tR]) [p] W s (OM J m p vs L R x W.H)
theorem Bc:∀ {m:Nat} {p:Addr} (fx:Fx J) (Qw:Ok J 9) (hm:m<=60) (j:Nat) (ih:∀ j',j=j'+1->Pq J q f c' doc pm QW cl m p j'),Pq J q f c' doc pm QW cl m p j:=by iterate 7
 intro A W s vs L R x tx tL tR C hw Ut US ap pl hLR hR h60 hx Yf hj hA;refine C.enter fx (ps:=["x","L","R"]) (ds:=[.int x,.int L,.int R]) (by rfl') (by decide) (by decide) (by decide) rfl rfl rfl ?_ ?_ (by dsimp only [Qt,Rd];exact ⟨_,_,rfl,⟨tx,rfl⟩,_,_,rfl,⟨tL,rfl⟩,_,_,rfl,⟨tR,rfl⟩,rfl⟩) hw (by have:=hA.2.1;omega) fun env Ql hec F C1=>?_
 ·intro x hx;have:=al hx;simp [qp] at this;rcases this with rfl | rfl | rfl<;>rfl'
 ·intro x hx;obtain ⟨d,hd⟩:=b6.mp hx;have:=al hd;simp [ro] at this;rcases this with ⟨rfl,_⟩ | ⟨rfl,_⟩ | ⟨rfl,_⟩<;>rfl'
 have Q4:Qx (j+9) (A.deeper env):=hA.deeper;have TS:Qx 9 (A.deeper env):=Q4.le (by omega);have apE:∀ b∈am env,b∉[p]:=fun b hb=>by
  simp only [ej];rcases aq.mp hb with rfl | hb
  ·intro e;have:=F.nl;rw [e] at this;obtain ⟨o,eo⟩:=ap.2.2.2;rw [this] at eo;cases eo
  ·rw [hec] at hb;obtain ⟨⟨y,c⟩,h1,rfl⟩:=aH.mp hb;obtain ⟨d,_,h2⟩:=C.keys _ h1;exact US _ _ h2
 have fX:∀ {W1:Wd} {s1:ah},Qp J [] W s W1 s1->bS s1.heap p vs/\Apart J W1 s1.heap p:=fun t=>⟨bS.keep pl (ap.at t (by simp)),ap.keep t⟩
 unfold Gm;have ht:ceT P0 9 qp ⟨[("x",.int x),("L",.int L),("R",.int R)],ro m f p,none⟩ NC W.H=some (((L:Int)+1==(R:Int)),W.H):=by rfl'
 refine ao (fC (Ex.into (Qw.t ht rfl F.tr.ok F.er TS) fun b W2 s2 k2 z0=>?_));obtain ⟨hbb,Sa⟩:=z0;subst hbb;have F2:=F.expr k2;have C2:=C1.step k2 trivial;by_cases Xa:L+1=R
 ·subst Xa;have hbt:((L:Int)+1==((L+1:Nat):Int))=true:=by simp
  rw [hbt,if_pos rfl];obtain ⟨pl2,XG⟩:=fX F2.tr;have hp:=C2.cells "a_digits" (.raw p) (by rfl');obtain ⟨vx,hvx,rx⟩:=F2.er.vars "x" (.int x) (by rfl');obtain ⟨vl,hvl,rl⟩:=F2.er.vars "L" (.int L) (by rfl');obtain ⟨vp,hvp,rp⟩:=F2.er.vars "a_digits" (.raw p) (by rfl');dsimp only [Rd] at rx rl rp;obtain ⟨tx2,rfl⟩:=rx;obtain ⟨tl2,rfl⟩:=rl;subst rp;have hx1:x<2 ^ m:=by simpa using hx
  refine ao (lQ (bq (cr hvx F2.er.kind (by decide) ?_) (by decide)) rfl);refine bq (cr hvp F2.er.kind (by decide) (bq (cr hvl F2.er.kind (by decide) ?_) (by decide))) (by decide);refine tJ pl2 (by omega) (by omega) (by omega) fun h' pl3 sb=>?_;refine ao (wpAny_Return_none ?_);have t3:Qp J [p] W2 s2 W2 {s2 with heap:=h'}:=F2.tr.ok.sameBut (tk:=s2.toks) sb ⟨XG.1,XG.2.1,XG.2.2.1⟩ (by obtain ⟨o,_,e,_⟩:=pl3;exact ⟨o,e⟩);exact ⟨W2,(F2.weaken (X:=[p])).tr.RQ t3,rfl,Sa,_,pl3,Seg.one (by omega) hx1⟩
 ·have hbf:((L:Int)+1==(R:Int))=false:=by
   simp only [beq_eq_false_iff_ne];omega
  rw [hbf,if_neg aJ];refine aW ?_
  -- mid
  have TZ:ceE P0 9 qp ⟨[("x",.int x),("L",.int L),("R",.int R)],ro m f p,none⟩ Li W2.H=some (.int ((L+R) / 2:Nat),W2.H):=by
   have h1:ceE P0 9 qp ⟨[("x",.int x),("L",.int L),("R",.int R)],ro m f p,none⟩ Li W2.H=some (.int (aL ((L:Int)+(R:Int)) (2 ^ (1:Int).toNat)),W2.H):=by rfl'
   rw [h1,<-fy,aV _ (by decide)];rfl
  refine ao (bj (Ex.into (Qw.e TZ rfl F2.tr.ok F2.er TS) fun v W3 s3 k3 z1=>?_) rfl);obtain ⟨Sk,rv⟩:=z1;have F3:=F2.expr k3;refine af (F3.store (x:="mid") (d:= .int ((L+R) / 2:Nat)) (by decide) rfl rv) (fun _ s4 F4=>?_) fun _ _ f=>f;generalize hM:(L+R) / 2=M at F4 rv;have Y2:L<M:=by omega
  have YZ:M<R:=by omega
  -- shift
  have WV:ceE P0 9 qp ((⟨[("x",.int x),("L",.int L),("R",.int R)],ro m f p,none⟩:St).withRho [("mid",.int M),("x",.int x),("L",.int L),("R",.int R)]) L5 W3.H=some (.int ((M-L) * m:Nat),W3.H):=by
   have h1:ceE P0 9 qp ((⟨[("x",.int x),("L",.int L),("R",.int R)],ro m f p,none⟩:St).withRho [("mid",.int M),("x",.int x),("L",.int L),("R",.int R)]) L5 W3.H=(binop .Mult (.int ((M:Int)-L)) (.int m)).bind fun d=>some (d,W3.H):=by rfl'
   rw [h1];have hs:lw ((M:Int)-L)=true:=by unfold lw;simp only [decide_eq_true_eq];omega
   have:((M:Int)-L) * m=(((M-L) * m:Nat):Int):=by rw [da,nM (by omega)]
   rw [IB (by rw [hs,fM]),this];rfl
  refine ao (bj (Ex.into (Qw.e WV rfl F4.tr.ok F4.er TS) fun v W5 s5 k5 z2=>?_) rfl);obtain ⟨VZ,Zu⟩:=z2;have F5:=F4.expr k5;have hKe:m * (M-L)=(M-L) * m:=bE _ _;have hKl:(M-L) * m<=3600:=nk (show M-L<=60 by omega) hm;have VT:2 ^ (m * (R-L))=2 ^ ((M-L) * m) * 2 ^ (m * (R-M)):=by rw [<-hKe,<-lK,<-jP,show M-L+(R-M)=R-L by omega]
  generalize hK:(M-L) * m=K at Zu F5 hKe hKl VT;refine af (F5.store (x:="shift") (d:= .int (K:Nat)) (by decide) rfl Zu) (fun _ s6 F6=>?_) fun _ _ f=>f
  -- upper
  have hU:ceE P0 9 qp ((⟨[("x",.int x),("L",.int L),("R",.int R)],ro m f p,none⟩:St).withRho [("shift",.int K),("mid",.int M),("x",.int x),("L",.int L),("R",.int R)]) LU W5.H=some (.int ((x / 2 ^ K:Nat):Int),W5.H):=by
   have h1:ceE P0 9 qp ((⟨[("x",.int x),("L",.int L),("R",.int R)],ro m f p,none⟩:St).withRho [("shift",.int K),("mid",.int M),("x",.int x),("L",.int L),("R",.int R)]) LU W5.H=(binop .RShift (.int x) (.int K)).bind fun d=>some (d,W5.H):=by rfl'
   rw [h1];rw [JW (az K),aP,aV _ (jc (lO (by decide)))];rfl
  refine ao (bj (Ex.into (Qw.e hU rfl F6.tr.ok F6.er TS) fun v W7 s7 k7 z3=>?_) rfl);obtain ⟨YL,Zt⟩:=z3;have F7:=F6.expr k7;have hxu:x / 2 ^ K<2 ^ (m * (R-M)):=il (by rw [<-VT];exact hx);have ZA:x % 2 ^ K<2 ^ (m * (M-L)):=by rw [hKe];exact bR _ (dk (by decide))
  have Yi:x / 2 ^ K<2 ^ 60:=iJ (Nat.div_le_self _ _) Yf;have YE:x % 2 ^ K<2 ^ 60:=iJ (Nat.mod_le _ _) Yf;have WM:=Jr x K;have hjU:∀ {L':Nat},L'=M-L->K=L' * m:=fun e=>by rw [e,hK]
  generalize hUe:x / 2 ^ K=u at F7 Zt hxu Yi WM;generalize Y1:x % 2 ^ K=lo at ZA YE WM;refine af (F7.store (x:="upper") (d:= .int u) (by decide) rfl Zt) (fun _ s8 F8=>?_) fun _ _ f=>f
  -- lower
  have hV:ceE P0 9 qp ((⟨[("x",.int x),("L",.int L),("R",.int R)],ro m f p,none⟩:St).withRho [("upper",.int u),("shift",.int K),("mid",.int M),("x",.int x),("L",.int L),("R",.int R)]) Lz W7.H=some (.int ((u * 2 ^ K:Nat):Int),W7.H):=by
   have h1:ceE P0 9 qp ((⟨[("x",.int x),("L",.int L),("R",.int R)],ro m f p,none⟩:St).withRho [("upper",.int u),("shift",.int K),("mid",.int M),("x",.int x),("L",.int L),("R",.int R)]) Lz W7.H=(binop .LShift (.int u) (.int K)).bind fun d=>some (d,W7.H):=by rfl'
   rw [h1];have hs:lw (u:Int)=true:=by unfold lw;simp only [decide_eq_true_eq];omega
   rw [JY (az K) (by omega) hs,aP,da,eD];rfl
  obtain ⟨vx,hvx,rx⟩:=F8.er.vars "x" (.int x) (by rfl');dsimp only [Rd] at rx;obtain ⟨tx2,rfl⟩:=rx;refine ao (bj (hH (bq (cr hvx F8.er.kind (by decide) (Ex.into (Qw.e hV rfl F8.tr.ok F8.er TS) fun v9 W9 s9 k9 z4=>?_)) (by decide))) rfl);obtain ⟨VY,rv9⟩:=z4;dsimp only [Rd] at rv9;obtain ⟨t9,rfl⟩:=rv9;refine xor_int ?_;rw [WM];have Wj:Qp J [] W9 s9 W9 {s9 with toks:=s9.toks+1}:=Qp.toks k9.ok;have F10:=(F8.expr k9).expr Wj;refine af (F10.store (x:="lower") (d:= .int lo) (by decide) rfl (by dsimp only [Rd];exact ⟨_,rfl⟩)) (fun _ s11 We=>?_) fun _ _ f=>f;have C11:S8 J qp q Iz Gm f c' doc pm QW cl (ro m f p) W9 s11:=C.step We.tr trivial;obtain ⟨aat,XH⟩:=fX We.tr;have g9:W9.H=W.H:=VY.trans (YL.trans (VZ.trans (Sk.trans Sa)));obtain ⟨j',rfl⟩:∃ j',j=j'+1:=by cases j with | zero=>simp at hj;omega | succ j'=>exact ⟨j',rfl⟩
  have hp:2 ^ (j'+1)=2 * 2 ^ j':=by rw [fQ,bE]
  have Vy:Qx (j'+10) (A.deeper env):=Q4.le (by omega);have e1:ceEs P0 9 qp ((⟨[("x",.int x),("L",.int L),("R",.int R)],ro m f p,none⟩:St).withRho [("lower",.int lo),("upper",.int u),("shift",.int K),("mid",.int M),("x",.int x),("L",.int L),("R",.int R)]) Kq W9.H=some ([.int lo,.int L,.int M],W9.H):=by rfl'
  refine ao (dE (Ex.into (vB (X:=[p]) (P:=OM J m p vs L M lo W9.H) Qw We.er We.tr.ok C11 (by rfl') e1 TS fun Wb s12 ws XO Xk aam=>?_) fun v13 Zl s13 Yd ⟨_,abh,Zo,aas,sg1⟩=>?_) We.inter rfl)
  ·obtain ⟨va,vb,vc,rfl,ra,rb,rc⟩:=As aam;dsimp only [Rd] at ra rb rc;obtain ⟨ta,rfl⟩:=ra;obtain ⟨tb,rfl⟩:=rb;obtain ⟨tc,rfl⟩:=rc;have:=ih j' rfl (tx:=ta) (tL:=tb) (tR:=tc) (C11.step XO trivial) XO.ok Ut US (XH.keep XO) (bS.keep aat (XH.at XO (by simp))) Y2 (by omega) h60 ZA YE (by omega) Vy;rw [Xk] at this;exact this
  ·have Z9:=(We.weaken (X:=[p])).Zc Yd apE;have C13:=C11.Wf Yd (by simpa using Ut) (fun x c e=>by simpa using US x c e);have Zk:=XH.keep Yd;have e2:ceEs P0 9 qp ((⟨[("x",.int x),("L",.int L),("R",.int R)],ro m f p,none⟩:St).withRho [("lower",.int lo),("upper",.int u),("shift",.int K),("mid",.int M),("x",.int x),("L",.int L),("R",.int R)]) Kw Zl.H=some ([.int u,.int M,.int R],Zl.H):=by rfl'
   refine ao (dE (Ex.into (vB (X:=[p]) (P:=OM J m p Zo M R u Zl.H) Qw Z9.er Z9.tr.ok C13 (by rfl') e2 TS fun W14 s14 ws Zz abg aal=>?_) fun v15 W15 s15 k15 ⟨_,abf,Zn,aar,sg2⟩=>?_) Z9.inter rfl)
   ·obtain ⟨va,vb,vc,rfl,ra,rb,rc⟩:=As aal;dsimp only [Rd] at ra rb rc;obtain ⟨ta,rfl⟩:=ra;obtain ⟨tb,rfl⟩:=rb;obtain ⟨tc,rfl⟩:=rc;have:=ih j' rfl (tx:=ta) (tL:=tb) (tR:=tc) (C13.step Zz trivial) Zz.ok Ut US (Zk.keep Zz) (bS.keep aas (Zk.at Zz (by simp))) YZ (by rw [sg1.size];omega) (by rw [sg1.size];omega) hxu Yi (by omega) Vy;rw [abg] at this;exact this
   ·refine aW ?_;refine ⟨W15,Z9.tr.RQ k15,rfl,abf.trans (abh.trans g9),Zn,aar,Seg.join (M:=M) (by rw [hK,Y1];exact sg1) (by rw [hK,hUe];exact sg2) (by omega) (by omega)⟩
theorem Ie:∀ {m:Nat} {p:Addr} (fx:Fx J) (Qw:Ok J 9) (hm:m<=60) (j:Nat),Pq J q f c' doc pm QW cl m p j:=by iterate 6
 induction j with
 | zero=>exact Bc fx Qw hm 0 fun _ e=>nomatch e
 | succ j ih=>exact Bc fx Qw hm (j+1) fun _ e=>cJ e▸ih
end
noncomputable def BM:aX:=(.mk .function [("a",.local),("n",.cell),("a_digits",.cell),("inner",.cell),("len",.globalImplicit)] false false [])
noncomputable def L0:Expr:=(.BinOp (.BinOp (.BinOp (.Call (.Attribute (.Name "a" ⟨73,23,73,24⟩) "bit_length" ⟨73,23,73,35⟩) [] [] ⟨73,23,73,37⟩) .Add (.Name "n" ⟨73,40,73,41⟩) ⟨73,23,73,41⟩) .Sub (.Constant (.int 1) 0 ⟨73,44,73,45⟩) ⟨73,23,73,45⟩) .FloorDiv (.Name "n" ⟨73,50,73,51⟩) ⟨73,22,73,51⟩)
noncomputable def U8:Fn:=⟨["a","n"],BM,
 [(.Assign [(.Name "a_digits" ⟨73,4,73,12⟩)] (.BinOp (.List [(.Constant (.int 0) 0 ⟨73,16,73,17⟩)] ⟨73,15,73,18⟩) .Mult L0 ⟨73,15,73,52⟩) ⟨73,4,73,52⟩),
  (.FunctionDef "inner" Iz Gm [] none [] qp none "inner" ⟨75,4,84,28⟩),
  (.If (.Name "a" ⟨85,7,85,8⟩) [(.Expr (.Call (.Name "inner" ⟨86,8,86,13⟩) [(.Name "a" ⟨86,14,86,15⟩),(.Constant (.int 0) 0 ⟨86,17,86,18⟩),(.Call (.Name "len" ⟨86,20,86,23⟩) [(.Name "a_digits" ⟨86,24,86,32⟩)] [] ⟨86,20,86,33⟩)] [] ⟨86,8,86,34⟩) ⟨86,8,86,34⟩)] [] ⟨85,4,86,34⟩),
  (.Return (some (.Name "a_digits" ⟨87,11,87,19⟩)) ⟨87,4,87,19⟩)]⟩
theorem Fh:pd P0 "_int2digits" =some U8:=by iterate 0 rfl'
theorem DT:∀ (v:ag),∀ (k:Nat) (acc:Array ag),List.foldl (fun x1 x2=>x1++x2) acc (d6 k #[v])=acc++(d6 k v).toArray:=by iterate 1 intro k;induction k with | zero=>intro acc;simp | succ k Qo=>intro acc;rw [lu,jB,Qo,lu];apply Array.toList_inj.mp;simp
theorem Eb:∀ (a:Nat),a<2 ^ dL a:=by iterate 1
 unfold dL;split
 ·subst_vars;decide
 ·exact mD
theorem Dz:∀ {a k:Nat} (h:a<2 ^ k),dL a<=k:=by iterate 3
 unfold dL;split
 ·omega
 ·rename_i h0;exact (iz h0).mpr h
theorem DF:∀ {a m:Nat} (ha:a<2 ^ 60) (hm:1<=m),(dL a+m-1) / m<=60/\a<2 ^ (m * ((dL a+m-1) / m))/\(a≠0->0<(dL a+m-1) / m)/\(a=0->(dL a+m-1) / m=0):=by iterate 4
 have hz:a=0->(dL a+m-1) / m=0:=fun h=>by subst h;exact eY (by show 0+m-1<m;omega)
 have hb:=Dz ha;have h1:=Eb a;generalize dL a=b at hb h1 hz;have d1:=eB (b+m-1) m;have d2:=bR (b+m-1) (show 0<m by omega);generalize (b+m-1) / m=k at d1 hz;have hk:b<=m * k:=by omega
 refine ⟨?_,dB h1 (a8 (by decide) hk),fun h0=>?_,hz⟩
 ·by_cases YH:k=0
  ·omega
  ·have h2:m * k<=b+m-1:=by omega
   have h3:m * (k-1)<=b-1:=by rw [Nat.mul_sub,Nat.mul_one];omega
   have h4:k-1<=m * (k-1):=kI _ (by omega);omega
 ·rcases Nat.eq_zero_or_pos k with rfl | h
  ·simp at hk;subst hk;simp at h1;omega
  ·exact h
section
variable {J:Cx} {A:bf} {W W0 W':Wd} {s s0 s1 s':ah} {X:List Addr} {sc VM:aX} {st:St} {env:Env}
theorem Jv:∀ {a m:Nat} {g:G} (ZK:1<=m) (hm2:m<=60),ceE P0 9 BM ⟨[("a",.int a),("n",.int m)],[],none⟩ L0 g=some (.int ((dL a+m-1) / m:Nat),g):=by iterate 5
 have h1:ceE P0 9 BM ⟨[("a",.int a),("n",.int m)],[],none⟩ L0 g=(binop .FloorDiv (.int ((dL (a:Int).natAbs:Int)+(m:Int)-1)) (.int m)).bind fun d=>some (d,g):=by rfl'
 rw [h1];have hs:lw (m:Int)=true:=by unfold lw;simp only [decide_eq_true_eq];omega
 rw [Fu (by omega) hs,aV _ (az _)];have:((dL (a:Int).natAbs:Int)+(m:Int)-1)=((dL a+m-1:Nat):Int):=by rw [fZ];omega
 rw [this];rfl
theorem Io:∀ {x:Str} {p1 p2 pos:Pos} {p:Addr} {vs:Array ag} (fx:Fx J) (R:Qq J W s.heap sc st env []) (hw:Qs J W s) (hg:qb sc "len" =true) (hx:mt x=true) (hv:varD sc st x=some (.raw p)) (pl:bS s.heap p vs) (Ru:vs.size<=60),Ex J A (eval (.Call (.Name "len" p1) [(.Name x p2)] [] pos) env) [] W s (li J (.int vs.size) W.H):=by iterate 14 obtain ⟨v,Sj,r1⟩:=R.vars x _ hv;dsimp only [Rd] at r1;subst r1;have cf:=pB fx (f:="len") (by decide);refine bH (bk R.kind (R.global hg) (cf.1.load R hw ?_) (by decide));refine pk (first:=[]) cf (by rfl) ?_;refine aR (bq (cr Sj R.kind hx ?_) (oP hx).1) rfl;refine aZ ⟨hw.QB,?_⟩;obtain ⟨o,n,e1,e2,e3,e4⟩:=pl;exact fO (items:=vs) ⟨o,e1,e2,n,e4⟩ (by omega) (nw hw)
theorem D9:∀ {ds:List D} {g g':G} {d:D} (fx:Fx J) (tx:Tx J) (Qw:Ok J 9) (tf:xQ J "_int2digits" "_int2digits.<locals>.inner" ⟨75,4,84,28⟩) (h:qS ds g=some (d,g')),∃ fv,pV J "_int2digits" fv/\∀ {A W s vs},Qx 30 A->W.H=g->Qt J W.F W.as ds vs->Qs J W s->Ex J A (call fv vs) [] W s (li J d g'):=by iterate 9
 obtain ⟨T,hT,YX,YY,mg,mb,a,o,fd,UC,Yz,YA,hF,Wu,Rb,XR,QE⟩:=tf;have QE:=QE _ Fh;refine ⟨.ref a,uu UC Yz YA QE,fun {A W s vs} hA hg hd hw=>?_⟩;replace h:=vK h;obtain ⟨⟨d0,d1⟩,h1,b,h2,m,h3,h⟩:=h;cases rB h1;cases be h2;cases be h3;split at h;rotate_left
 ·cases h
 rename_i hc;cases h;obtain ⟨hb0,Vu,ZK,Xd⟩:=hc;obtain ⟨m,rfl⟩:=eE (show 0<=m by omega);obtain ⟨b,rfl⟩:=eE hb0;rw [aP,aP];have Vu:b<2 ^ 60:=by omega
 have ZK:1<=m:=by omega
 have Xd:m<=60:=by omega
 obtain ⟨Xe,hbk,Wq,hkz⟩:=DF Vu ZK;have hK:=fun g=>Jv (a:=b) (g:=g) ZK Xd;generalize (dL b+m-1) / m=k at Xe hbk Wq hkz hK;refine eV (vo (ds:=[.int b,.int m]) fx QE rfl (by have:=hA.2.1;omega) hd hw fun env Ql R z0=>?_);obtain ⟨o',fd',Wy,TL,Tn⟩:=z0;rw [hF] at Wy;cases Wy;rw [Wu] at TL;cases TL;have Q4:Qx 29 (A.deeper env):=hA.deeper;have TS:Qx 9 (A.deeper env):=Q4.le (by omega);show aD _ _ (gg U8.body env) _ _ _;unfold U8
 -- WE list
 refine ao (bj (hH (gU (aR (bO (aZ ⟨by simp [dw],?_⟩)) rfl))) rfl);have k1:Qp J [] W Ql W {Ql with heap:=Ql.heap.push {cls:= .type "list",data:= .seq [dZ 0 Ql.toks].toArray},toks:=Ql.toks+1}:=Qp.push R.ok _;have R1:=R.expr k1;have Yc:({Ql with heap:=Ql.heap.push {cls:= .type "list",data:= .seq [dZ 0 Ql.toks].toArray},toks:=Ql.toks+1}:ah).heap.get? Ql.heap.objs.size=some {cls:= .type "list",data:= .seq [dZ 0 Ql.toks].toArray}:=ax _ rfl;have n0:=R.ok.QQ (bv Ql.heap);have apl:Apart J W _ Ql.heap.objs.size:=⟨n0.1,n0.2.1,n0.2.2,_,Yc⟩
 refine Ex.into (Qw.e (hK W.H) rfl R1.ok R1.R TS) fun vk W2 s2 k2 z1=>?_;obtain ⟨Sa,rk⟩:=z1;dsimp only [Rd] at rk;obtain ⟨tk,rfl⟩:=rk;have R2:=R1.expr k2;refine GC (apl.at k2 (by simp) _ Yc) (az _) (by omega) (by simp;omega) ?_;rw [if_neg (by simp),aP,DT];have Wm:s2.heap.get? s2.heap.objs.size=none:=bv _;generalize Tu:({cls:= .type "list",data:= .seq (#[]++(d6 k (dZ 0 Ql.toks)).toArray)}:Obj)=ob;have k3:Qp J [] W2 s2 W2 {s2 with heap:=s2.heap.push ob}:=Qp.push R2.ok _;have pat:({s2 with heap:=s2.heap.push ob}:ah).heap.get? s2.heap.objs.size=some ob:=ax _ (by rw [<-Tu];rfl);have np:=R2.ok.QQ Wm;have hpF:=R2.Q2 Wm;have XS:=R2.tr.Qy Wm;have Wn:=R2.RM Wm;have R3:=R2.expr k3;generalize hp:s2.heap.objs.size=p at pat np hpF XS Wn;have ap3:Apart J W2 ({s2 with heap:=s2.heap.push ob}:ah).heap p:=⟨np.1,np.2.1,np.2.2,_,pat⟩
 have ZG:p∉am env:=fun hm=>hpF (by simpa using hm);refine af ((R3.rebase).store (x:="a_digits") (v:= .ref p) (d:= .raw p) (by rfl') (by rfl') (by dsimp only [Rd])) (fun _ s4 z2=>?_) fun _ _ f=>f;obtain ⟨k4,R4⟩:=z2;obtain ⟨ap4,kp4⟩:=R4.keep p ap3 ZG (by simp)
 -- inner
 obtain ⟨cd,RH⟩:=wV R4.R (x:="a_digits") (d:= .raw p) (by rfl') (by rfl');obtain ⟨cn,Wx⟩:=wV R4.R (x:="n") (d:= .int m) (by rfl') (by rfl');obtain ⟨ci,vi,VI,_⟩:=R4.R.cells "inner" (by rfl');have To:eX qp env=pure [(("n" :Str),cn),("inner",ci),("a_digits",cd)]:=by
  have:=sR (scope:=qp) (env:=env) fun y hy=>by
   simp [qp] at hy;rcases hy with rfl | rfl | rfl
   ·exact ⟨_,RH⟩
   ·exact ⟨_,VI⟩
   ·exact ⟨_,Wx⟩
  rw [this];congr 1;show [(("n" :Str),(env.cells.lookup ("n" :Str)).getD 0),("inner",(env.cells.lookup ("inner" :Str)).getD 0),("a_digits",(env.cells.lookup ("a_digits" :Str)).getD 0)]=_;rw [Wx,VI,RH];rfl
 refine ao (ze tx hT R4.rebase rfl rfl (by rfl') (by rw [Tn];exact Rb) YY.symm (by rw [xi R4.R (by rfl') Tn XR,YX];rfl') To (by rfl') rfl fun f c' doc pm QW W6 s6 R6 g6 hf6 ap6 Xq nf=>?_);obtain ⟨app,kp6⟩:=R6.keep p ap4 ZG (by simp);have aav:=kp6 _ (kp4 _ pat);have Ut:f≠p:=fun e=>by rw [e,kp4 _ pat] at nf;cases nf
 have pl6:bS s6.heap p (d6 k (dZ 0 Ql.toks)).toArray:=⟨ob,0,aav,by rw [<-Tu],by rw [<-Tu],by rw [<-Tu];simp⟩
 have C6:S8 J qp T.q Iz Gm f c' doc pm QW [(("n" :Str),cn),("inner",ci),("a_digits",cd)] (ro m f p) W6 s6:=by
  refine S8.of R6.R hf6 ap6 Xq (fun p hp=>?_) (fun x d e=>?_)
  ·simp only [aq,aO,or_false] at hp;rcases hp with rfl | rfl | rfl
   ·exact ⟨Wx,by rfl',by rfl'⟩
   ·exact ⟨VI,by rfl',by rfl'⟩
   ·exact ⟨RH,by rfl',by rfl'⟩
  ·have z:=al e;simp only [ro,aq,aO,or_false,cR] at z;rcases z with ⟨rfl,rfl⟩ | ⟨rfl,rfl⟩ | ⟨rfl,rfl⟩
   ·exact ⟨by rfl',by rfl',cn,by simp⟩
   ·exact ⟨by rfl',by rfl',ci,by simp⟩
   ·exact ⟨by rfl',by rfl',cd,by simp⟩
 have US:∀ x c,cG x [(("n" :Str),cn),("inner",ci),("a_digits",cd)]=some c->c≠p:=fun x c e q=>by
  subst q;refine ZG (av _ ?_);have z:=al e;simp only [aq,aO,or_false,cR] at z;rcases z with ⟨rfl,rfl⟩ | ⟨rfl,rfl⟩ | ⟨rfl,rfl⟩
  ·exact aH.mpr ⟨_,al Wx,rfl⟩
  ·exact aH.mpr ⟨_,al VI,rfl⟩
  ·exact aH.mpr ⟨_,al RH,rfl⟩
 subst hg;have g6':W6.H=W.H:=g6.trans Sa
 -- WE end
 have fin:∀ {W7:Wd} {s7:ah} {SX:Array ag},Qp J [p] W6 s6 W7 s7->W7.H=W.H->bS s7.heap p SX->Qt J W7.F W7.as ((pH k (2 ^ m) b).map .int) SX.toList->
   aD (aC P0 J.w) (A.deeper env) (gg [(.Return (some (.Name "a_digits" ⟨87,11,87,19⟩)) ⟨87,4,87,19⟩)] env) (fun f s'=>∃ W',Qp J [] W s W' s'/\li J (.lst ((pH k (2 ^ m) b).map .int)) W.H (match f with | .ret v=>v | _=> .none) W' s') (fun _ _=>False) s7:=by
  intro W7 s7 SX t YL pl7 rd7;have e7:=R6.R.keep t (fun a ha q=>ZG (by simp at q;subst q;simpa using ha));obtain ⟨v,Sj,r1⟩:=e7.vars "a_digits" (.raw p) (by rfl');dsimp only [Rd] at r1;subst r1;have tr7:Qp J [] W s W7 s7:=R6.tr.trans t (by simp [XS]);obtain ⟨ob',_,t8,r8⟩:=v3 (o:= .lst ((pH k (2 ^ m) b).map .int)) tr7 XS (app.keep t) ⟨by simp [sO];unfold lim;omega,SX,pl7,rd7⟩;refine ao (cm (bq (cr Sj e7.kind (by decide) ?_) (by decide)));exact ⟨_,t8,YL,r8⟩
 -- if a
 obtain ⟨va,hva,ra⟩:=R6.R.vars "a" (.int b) (by rfl');dsimp only [Rd] at ra;obtain ⟨ta,rfl⟩:=ra;refine ao (fC (dP (bq (cr hva R6.R.kind (by decide) (truthy_int ?_)) (by decide)) rfl));by_cases hz:b=0
 ·subst hz;rw [if_neg (by simp)];refine aW ?_;have YH:k=0:=hkz rfl;subst YH;exact fin (Qp.refl R6.ok) g6' pl6 (by exact (rfl:([]:List ag)=[]))
 ·rw [if_pos (by simp;omega)];obtain ⟨v,Sj,r1⟩:=R6.R.vars "inner" (.raw f) (by rfl');dsimp only [Rd] at r1;subst r1;refine ao (dE ?_ (rC R6) rfl);refine bH (bq (cr Sj R6.R.kind (by decide) ?_) (by decide));refine c9 (P:=eH f) rfl (fun h=>cX h) (pE rfl ?_);refine aR (bq (cr hva R6.R.kind (by decide) ?_) (by decide)) rfl;refine aR (bO ?_) rfl;have k8:Qp J [] W6 s6 W6 {s6 with toks:=s6.toks+1}:=Qp.toks R6.ok;have R8:=R6.expr k8;refine aR (Ex.into (Io fx (p:=p) R8.R R8.ok (by rfl') (by decide) (by rfl') (bS.keep pl6 (app.at k8 (by simp))) (by simpa using Xe)) fun vl W9 s9 k9 z3=>?_) rfl;obtain ⟨VY,rl⟩:=z3;dsimp only [Rd] at rl;obtain ⟨tl,rfl⟩:=rl;have Zx:=k8.Qn k9;have C9:=C6.step Zx trivial;have R9:=R8.expr k9;refine aZ ⟨⟨_,_,_,_,C9.hF⟩,?_⟩;have Ru:(d6 k (dZ 0 Ql.toks)).toArray.size=k:=by simp
  rw [Ru];have:=Ie fx Qw Xd 6 (L:=0) (R:=k) (x:=b) (tx:=ta) (tL:=s6.toks) (tR:=tl) C9 R9.ok Ut US (app.keep Zx) (bS.keep pl6 (app.at Zx (by simp))) (Wq hz) (by simp) (by simpa using Xe) (by simpa using hbk) Vu (by omega) (Q4.le (by omega));refine Ex.into this fun v W10 s10 Wj y0=>?_;obtain ⟨_,Vo,SX,aau,sg⟩:=y0;refine aW (fin (Zx.Sy Wj) (Vo.trans (VY.trans g6')) aau ?_);have Ym:=sg.size;rw [Ru] at Ym;refine Qt.of_get (by simp [sO,Ym]) fun i d v h1 h2=>?_;have hi:i<k:=by have:=(ak.mp h1).1;simpa [sO] using this
  rw [b8,zZ k b i hi] at h1;simp only [cY,fi] at h1;subst h1;obtain ⟨t,e⟩:=sg.at_ i (by omega) hi;rw [eP,e] at h2;cases h2;dsimp only [Rd];exact ⟨t,by rw [<-jN];rfl⟩
end
section
variable {M:Model} {A:bf} {R:GenEnd} {Y:nj} {n:Nat} {Qu:ah} {c:Code} {fs:List Frame} {s:ah} {env:Env}
 {K:Flow->Sem Fin} {ahg:ag->Sem Fin} {gd:Bool->Bool} {lv:List ag->List ag}
theorem qy:∀ {α:Type} {B:bf} {m:Sem α} {Q:α->ah->Prop} {E:ag->ah->Prop} (h:aD M B m Q (fun _ _=>False) s),aD M B m Q E s:=by iterate 6 exact (af h (fun _ _ q=>q) fun _ _ (f:False)=>f.elim)
theorem BI:∀ {zJ:Expr} {b o:List Stmt} {pos:Pos} (h:aD M (A.over c fs) (jT zJ env (eval zJ env)) (fun t s'=>cq M A R Y n Qu c ((gg (if t then b else o) env).wrap K ahg gd lv) fs s') (fun _ _=>False) s),cq M A R Y n Qu c ((exec (.If zJ b o pos) env).wrap K ahg gd lv) fs s:=by iterate 5 rw [exec_If];refine cO (bt (cO (qy (af h (fun t s' q=>?_) fun _ _ f=>f))));cases t<;>exact q
theorem vw:∀ {st:Stmt} (h:aD M (A.over c fs) (exec st env) (fun f s'=>cq M A R Y n Qu c (K f) fs s') (fun _ _=>False) s),cq M A R Y n Qu c ((exec st env).wrap K ahg gd lv) fs s:=by iterate 2 exact (seg_wrap (qy h))
theorem Jx:∀ {t it:Expr} {body orelse:List Stmt} {pos:Pos} (hs:∀ x,gX it env x=pure x) (h:aD M (A.over c fs) (eval it env) (fun xv Ql=>aD M (A.over c fs) (kz xv) (fun iv Q9=>∀ p,cq M A R Y n Qu (.forLoop t iv body orelse env) (M.den (.forLoop t iv body orelse env))
   (.ret (fun r=>((match r with | .ok f=>(.pure f:Sem Flow) | .error e=> .raise e).onRaise fun (x:ag)=>do
    if (<-lI x 1)==iI then unsupported "frame.own-activation:exception-without-traceback"
    setFlight x env.frame).wrap K ahg gd lv) none (gd false) (lv []) c p []::fs) Q9) (fun _ _=>False) Ql) (fun _ _=>False) s),cq M A R Y n Qu c ((exec (.For t it body orelse pos) env).wrap K ahg gd lv) fs s:=by iterate 7
 rw [exec_For];refine cO (bt (cO (qy (af h (fun xv s1 q=>?_) fun _ _ f=>f))));refine cO (gb (hs xv) (cO (bt (cO (bu (qy (af q (fun iv s2 q=>?_) fun _ _ f=>f)))))));exact seg_call q
end
noncomputable def H9 (env:Env) (e:ag):Sem Fin:=(do gW e env;dY e:Sem Unit).wrap (fun _=> .raise e) .raise id id
noncomputable def HY (t:Expr) (it:ag) (body orelse:List Stmt) (env:Env):Flow->Sem Fin
| .next | .cont=> .pure (.again (.forLoop t it body orelse env))
| .brk=> .pure (.done .next)
| .ret v=> .pure (.done (.ret v))
section
variable {prog:bY} {w:jl} {A:bf} {R:GenEnd} {Y:nj} {n:Nat} {Qu:ah} {fs:List Frame} {s:ah} {env:Env}
theorem wM:∀ {t:Expr} {it:ag} {body orelse:List Stmt} (h:aD (aC prog w) (A.over (.forLoop t it body orelse env) fs) (eF it) (fun r Ql=>match r with
   | none=>cq (aC prog w) A R Y n Qu (.forLoop t it body orelse env) (.pure (.again (.block orelse env))) fs Ql
   | some v=>aD (aC prog w) (A.over (.forLoop t it body orelse env) fs) (cH t it v) (fun _ Q9=>aD (aC prog w) (A.over (.forLoop t it body orelse env) fs) (assign t env v) (fun _ QP=>cq (aC prog w) A R Y n Qu (.forLoop t it body orelse env) ((gg body env).wrap (HY t it body orelse env) (H9 env) id id) fs QP) (fun _ _=>False) Q9) (fun _ _=>False) Ql) (fun _ _=>False) s),cq (aC prog w) A R Y n Qu (.forLoop t it body orelse env) ((aC prog w).den (.forLoop t it body orelse env)) fs s:=by iterate 5
 show cq _ A R Y n Qu _ ((forTurn t it body orelse env).onRaise (fun x=>do gW x env;dY x)) fs s;unfold forTurn;rw [Sem.onRaise_eq_wrap];refine cO (bt (cO (lE (af h (fun r s1 q=>?_) fun _ _ (f:False)=>f.elim))));cases r with
 | none=>exact q
 | some v=>
  refine cO (qy (af q (fun _ s2 q=>?_) fun _ _ f=>f));refine cO (qy (af q (fun _ s3 q=>?_) fun _ _ f=>f));rw [Sem.bind_eq_wrap',Sem.wrap_wrap];rw [Sem.wrap_congr (gg body env) _ _ (K':=HY t it body orelse env) (H':=H9 env)
    (fun f=>by cases f<;>rfl)
    (fun e=>by first | exact mz _ _ | (show (do gW e env;dY e:Sem Unit).bind (fun _=> .raise e)=_;unfold H9;rw [mz]))]
  exact q
theorem yt:∀ {c:Code} (h:cq (aC prog w) A R Y n Qu (.block [] env) (leafOf (.ok .next)) fs s),cq (aC prog w) A R Y n Qu c (.pure (.again (.block [] env))) fs s:=by iterate 2 exact (seg_again rfl h)
end
noncomputable def KG:aX:=(.mk .function [("addr",.local),("pos",.local),("escape",.local),("ch",.local),("enumerate",.globalImplicit)] true false [])
noncomputable def P3:List Expr:=[(.Name "pos" ⟨5,8,5,11⟩),(.Name "ch" ⟨5,13,5,15⟩)]
noncomputable def yD:Expr:=(.Tuple P3 0 ⟨5,8,5,15⟩)
noncomputable def PV:Expr:=(.Call (.Name "enumerate" ⟨5,19,5,28⟩) [(.Name "addr" ⟨5,29,5,33⟩)] [] ⟨5,19,5,34⟩)
noncomputable def gC:Expr:=(.Compare (.Name "ch" ⟨9,13,9,15⟩) [.Eq] [(.Constant (.str "\\") 0 ⟨9,19,9,23⟩)] ⟨9,13,9,23⟩)
noncomputable def PK:Stmt:=(.Expr (.Yield (some (.Tuple [(.Name "pos" ⟨7,19,7,22⟩),(.BinOp (.Constant (.str "\\") 0 ⟨7,24,7,28⟩) .Add (.Name "ch" ⟨7,31,7,33⟩) ⟨7,24,7,33⟩)] 0 ⟨7,18,7,34⟩)) ⟨7,12,7,34⟩) ⟨7,12,7,34⟩)
noncomputable def PR:Stmt:=(.Expr (.Yield (some (.Tuple [(.Name "pos" ⟨12,19,12,22⟩),(.Name "ch" ⟨12,24,12,26⟩)] 0 ⟨12,18,12,27⟩)) ⟨12,12,12,27⟩) ⟨12,12,12,27⟩)
noncomputable def Qd:Stmt:=(.Expr (.Yield (some (.Tuple [(.Name "pos" ⟨14,15,14,18⟩),(.Constant (.str "\\") 0 ⟨14,20,14,24⟩)] 0 ⟨14,14,14,25⟩)) ⟨14,8,14,25⟩) ⟨14,8,14,25⟩)
noncomputable def ub:List Stmt:=[(.If (.Name "escape" ⟨6,11,6,17⟩) [PK,(.Assign [(.Name "escape" ⟨8,12,8,18⟩)] (.Constant (.bool false) 0 ⟨8,21,8,26⟩) ⟨8,12,8,26⟩)] [(.If gC [(.Assign [(.Name "escape" ⟨10,12,10,18⟩)] (.Constant (.bool true) 0 ⟨10,21,10,25⟩) ⟨10,12,10,25⟩)] [PR] ⟨9,8,12,27⟩)] ⟨6,8,12,27⟩)]
noncomputable def Ke:Stmt:=(.If (.Name "escape" ⟨13,7,13,13⟩) [Qd] [] ⟨13,4,14,25⟩)
noncomputable def RC:Fn:=⟨["addr"],KG,[(.Assign [(.Name "pos" ⟨3,4,3,7⟩)] (.Constant (.int 0) 0 ⟨3,10,3,11⟩) ⟨3,4,3,11⟩),(.Assign [(.Name "escape" ⟨4,4,4,10⟩)] (.Constant (.bool false) 0 ⟨4,13,4,18⟩) ⟨4,4,4,18⟩),(.For yD PV ub [] ⟨5,4,12,27⟩),Ke]⟩
theorem FF:pd P0 "_iter_escaped_chars" =some RC:=by iterate 0 rfl'
noncomputable def gen:Nat->Bool->List Nat->List D
| _,false,[]=>[]
| p,true,[]=>[.tup [.int (p-1:Nat),.str [92]]]
| p,true,c::r=> .tup [.int p,.str [92,c]]::gen (p+1) false r
| p,false,c::r=>if c=92 then gen (p+1) true r else .tup [.int p,.str [c]]::gen (p+1) false r
theorem wf:∀ (p:Nat) (x:List Nat),gen p false x=pZ p x
 | _,[]=>rfl
 | p,[c]=>by
  dsimp only [gen,pZ];split
  ·subst_vars;rfl
  ·rfl
 | p,c::d::r=>by
  show (if c=92 then _ else _)=(if c=92 then _ else _);by_cases hc:c=92
  ·rw [if_pos hc,if_pos hc];show .tup [.int (p+1:Nat),.str [92,d]]::gen (p+2) false r=_;rw [wf (p+2) r]
  ·rw [if_neg hc,if_neg hc,wf (p+1) (d::r)]
noncomputable def qg (L:Addr) (qn:Str) (a:Addr) (code:ag):Env:=ng KG L bC [] (qn++".<locals>.") (some a) code none bU
structure GI (L e it:Addr) (X:Str) (t:Tok) (i:Nat) (b:Bool) (h:Heap):Prop where
 ns:∃ m tp,h.Ns L m/\m "escape" =some (.bool b)/\m "pos" =some (.int ((i-1:Nat):Int) tp)
 en:∃ old,IsEnum h e it i old
 si:h.IsStrIter it (hW X) X t i
noncomputable def QO (Y0:List Addr) (Qu s:ah):Prop:=∃ h tk,s={Qu with heap:=h,toks:=tk}/\∀ b o,b∉Y0->Qu.heap.get? b=some o->h.get? b=some o
theorem QO.refl:∀ (Y0:List Addr) (s:ah),QO Y0 s s:=by iterate 2 exact (⟨s.heap,s.toks,rfl,fun _ _ _ e=>e⟩)
theorem QO.step:∀ {Y0:List Addr} {Qu s:ah} {h:Heap} {tk:Nat} (ahg:QO Y0 Qu s) (k:∀ b o,b∉Y0->s.heap.get? b=some o->h.get? b=some o),QO Y0 Qu {s with heap:=h,toks:=tk}:=by iterate 7 obtain ⟨h1,t1,rfl,k1⟩:=ahg;exact ⟨h,tk,rfl,fun b o hb e=>k b o hb (k1 b o hb e)⟩
noncomputable def KY (Y0:List Addr) (Qu s:ah) (v:ag) (d:D):Prop:=∃ a p cs t u,d= .tup [.int p,.str cs]/\v= .ref a/\a∉Y0/\Qu.heap.get? a=none/\cs.length<=2/\s.heap.get? a=some {cls:= .type "tuple",data:= .seq #[.int p t,.str ⟨cs.toArray⟩ u]}
noncomputable def pW:Bool->List Nat->Bool
| b,[]=>b
| true,_::r=>pW false r
| false,c::r=>pW (decide (c=92)) r
theorem xt:∀ (i:Nat) (b:Bool) (r:List Nat),(pW b r&&(gen i b r).length==0)=false:=by iterate 0
 intro i b r;induction r generalizing i b with
 | nil=>cases b<;>rfl
 | cons c r Qo=>
  cases b with
  | true=>dsimp only [gen];simp
  | false=>
   dsimp only [gen,pW];by_cases h:c=92
   ·rw [decide_eq_true h,if_pos h];exact Qo (i+1) true
   ·rw [if_neg h];simp
noncomputable def zA (_:Cx) (Y0:List Addr) (oZ:Bool) (all:List D):nj:=fun m Qu v s kap=>
 (∃ d,all[all.length-1-m]? =some d/\KY Y0 Qu s v d)/\QO Y0 Qu s/\((oZ&&m==0)=false->∀ b∈Y0,∃ o,s.heap.get? b=some o)/\
  ∀ Su:ah,((oZ&&m==0)=false->∀ b∈Y0,∀ o,s.heap.get? b=some o->Su.heap.get? b=some o)->kap (.send .none) Su
noncomputable def zV (Y0:List Addr) (oZ:Bool):GenEnd:=fun n Qu r Ql=>r= .ok (.ret .none)/\n=0/\QO (if oZ then [] else Y0) Qu Ql
section
variable {J:Cx} {A:bf} {s Qu:ah} {L e it a:Addr} {qn:Str} {code:ag} {X:Str} {t:Tok} {i:Nat} {b:Bool} {fs:List Frame}
theorem B5 {x:Str} {v:ag} {m} {p:Pos} {Q:ag->ah->Prop} {E:ag->ah->Prop} (hk:(qg L qn a code).kindOf x=some .local) (hx:mt x=true) (hn:s.heap.Ns L m) (hv:m x=some v) (h:Q v s):
  aD (aC P0 J.w) A (eval (.Name x p) (qg L qn a code)) Q E s:=
 bq (cr (.inl ⟨hk,m,hn,hv⟩) rfl hx h) (oP hx).1
theorem K0:∀ {c:Nat},bB "\\" ++(⟨#[c]⟩:Str)=⟨[92,c].toArray⟩:=by iterate 1 rfl
theorem KP:∀ (hh:A.handled=none) (it:Addr) (X:Str) (t:Tok),Draws P0 J.w A it [it] X.cps.size (fun i v=>∃ c u,X.cps[i]? =some c/\v= .str ⟨#[c]⟩ u) (fun i h=>h.IsStrIter it (hW X) X t i):=by iterate 4
 unfold hW;split
 ·exact Draws.strAscii hh it X t
 ·exact Draws.strWide hh it X t
end
section
variable {J:Cx} {A:bf} {s Qu:ah} {L e it a:Addr} {qn:Str} {code:ag} {X:Str} {t:Tok} {i:Nat} {b:Bool} {fs:List Frame} {C:Code} {all:List D} {oZ:Bool}
theorem wj:∀ {K:Flow->Sem Fin} {ahg:ag->Sem Fin} {gd:Bool->Bool} {lv:List ag->List ag} {ex:Expr} {p1 p2 p3 p4:Pos} {m:Str->Option ag} {tp:Tok} {pv:Int} {cs:List Nat} {tl:List D} {pre:List D} (UG:nE fs=none) (hgd:gd false=false) (XY:fs.any kc=false) (hn:s.heap.Ns L m) (hp:m "pos" =some (.int pv tp)) (hs:QO [L,e,it] Qu s) (hB:∀ b∈[L,e,it],b<s.heap.objs.size) (hY:(oZ&&tl.length==0)=false->∀ b∈[L,e,it],∃ o,s.heap.get? b=some o) (QD:all=pre++ .tup [.int pv,.str cs]::tl) (X0:cs.length<=2) (he:∀ (s1:ah) {Q:ag->ah->Prop},s1.heap=s.heap->(∀ u tk,Q (.str ⟨cs.toArray⟩ u) {s1 with toks:=tk})->aD (aC P0 J.w) (A.over C fs) (eval ex (qg L qn a code)) Q (fun _ _=>False) s1) (RE:eL [ex] (qg L qn a code)=(false,eval ex (qg L qn a code))::eL [] (qg L qn a code)) (hk:∀ Su,((oZ&&tl.length==0)=false->∀ b∈[L,e,it],∀ o,s.heap.get? b=some o->Su.heap.get? b=some o)->cq (aC P0 J.w) A (zV [L,e,it] oZ) (zA J [L,e,it] oZ all) tl.length Su C (K .next) fs Su),cq (aC P0 J.w) A (zV [L,e,it] oZ) (zA J [L,e,it] oZ all) (tl.length+1) Qu C ((exec (.Expr (.Yield (some (.Tuple [(.Name "pos" p1),ex] 0 p2)) p3) p4) (qg L qn a code)).wrap K ahg gd lv) fs s:=by iterate 28
 refine seg_Expr_Yield UG hgd XY ?_;refine qy (wpAny_Tuple (aR (B5 rfl rfl hn hp ?_) rfl));refine aR (he s rfl fun u tk=>?_) RE;refine aZ ⟨by simp [dw],fun kap VW=>?_⟩;obtain ⟨h1,t1,rfl,k1⟩:=hs;have Rr:h1.get? h1.objs.size=none:=bv _;have h0:Qu.heap.get? h1.objs.size=none:=by cases q:Qu.heap.get? h1.objs.size with | none=>rfl | some o=>have:=k1 _ o (fun hm=>kE _ (hB _ hm)) q;rw [Rr] at this;cases this
 refine ⟨⟨_,?_,h1.objs.size,pv,cs,tp,u,rfl,rfl,fun hm=>kE _ (hB _ hm),h0,X0,ax _ rfl⟩,?_,fun hc b hb=>let ⟨o,q⟩:=hY hc b hb;⟨o,aF _ q⟩,fun Su VE=>?_⟩
 ·have:all.length-1-tl.length=pre.length:=by rw [QD];simp
  rw [this,QD];simp
 ·exact ⟨_,_,rfl,fun b o hb q=>aF _ (k1 b o hb q)⟩
 ·exact VW .none Su (hk Su (fun hc b hb o q=>VE hc b hb o (aF _ q)))
theorem wZ:∀ {x:Str} {v:ag} {m:Str->Option ag} {p pos:Pos} {ex:Expr} {B:bf} {Q:Flow->ah->Prop} (hk:(qg L qn a code).kindOf x=some .local) (hn:s.heap.Ns L m) (he:∀ {Q:ag->ah->Prop},(∀ tk,Q v {s with toks:=tk})->aD (aC P0 J.w) B (eval ex (qg L qn a code)) Q (fun _ _=>False) s) (hsw:jg ex (some (.Name x p)) pos.line (qg L qn a code)=pure false) (hQ:∀ h' tk,h'.Ns L (fun y=>if y=x then some v else m y)->bW L s.heap h'->Q .next {s with heap:=h',toks:=tk}),aD (aC P0 J.w) B (exec (.Assign [.Name x p] ex pos) (qg L qn a code)) Q (fun _ _=>False) s:=by iterate 13 exact (bj (he fun tk=>fh hk hn (fun h' h1 h2=>hQ h' _ h1 h2) rfl) hsw)
theorem Gj:∀ {m:Str->Option ag} {c:Nat} {r:List Nat} {u tp:Tok} {old:ag} (UG:nE fs=none) (XY:fs.any kc=false) (Wv:e≠L) (Ws:it≠L) (hn:s.heap.Ns L m) (V1:m "escape" =some (.bool b)) (Rz:m "pos" =some (.int (i:Nat) tp)) (hch:m "ch" =some (.str ⟨#[c]⟩ u)) (hen:IsEnum s.heap e it ((i:Int)+1) old) (hsi:s.heap.IsStrIter it (hW X) X t (i+1)) (hs:QO [L,e,it] Qu s) (QD:∃ pre,all=pre++gen i b (c::r)) (hl:pW b (c::r)=oZ) (Vh:∀ b' RW s',GI L e it X t (i+1) b' s'.heap->QO [L,e,it] RW s'->(∃ pre,all=pre++gen (i+1) b' r)->pW b' r=oZ->
   cq (aC P0 J.w) A (zV [L,e,it] oZ) (zA J [L,e,it] oZ all) (gen (i+1) b' r).length RW (.forLoop yD (.ref e) ub [] (qg L qn a code)) (.pure (.again (.forLoop yD (.ref e) ub [] (qg L qn a code)))) fs s'),cq (aC P0 J.w) A (zV [L,e,it] oZ) (zA J [L,e,it] oZ all) (gen i b (c::r)).length Qu (.forLoop yD (.ref e) ub [] (qg L qn a code)) ((gg ub (qg L qn a code)).wrap (HY yD (.ref e) ub [] (qg L qn a code)) (H9 (qg L qn a code)) id id) fs s:=by iterate 20
 have mk:∀ {h':Heap} {b':Bool} {m':Str->Option ag},h'.Ns L m'->m' "escape" =some (.bool b')->m' "pos" =some (.int (i:Nat) tp)->(∀ b∈[e,it],∀ o,s.heap.get? b=some o->h'.get? b=some o)->GI L e it X t (i+1) b' h':=by
  intro h' b' m' h1 h2 h3 k;refine ⟨⟨m',tp,h1,h2,by simpa using h3⟩,⟨old,?_⟩,?_⟩
  ·have:=k e (by simp) _ hen;exact_mod_cast this
  ·obtain ⟨o,e1,e2⟩:=hsi;exact ⟨o,k it (by simp) _ e1,e2⟩
 have nb:∀ {h h':Heap},bW L h h'->∀ b∈[e,it],∀ o,h.get? b=some o->h'.get? b=some o:=fun sb b hb o q=>by
  refine sb.extBut b o ?_ q;simp at hb;rcases hb with rfl | rfl
  ·exact Wv
  ·exact Ws
 obtain ⟨pre,QD⟩:=QD;have hY:∀ b∈[L,e,it],∃ o,s.heap.get? b=some o:=by
  intro b hb;simp at hb;rcases hb with rfl | rfl | rfl
  ·obtain ⟨o,_,_,z,_⟩:=hn;exact ⟨o,z⟩
  ·exact ⟨_,hen⟩
  ·obtain ⟨o,z,_⟩:=hsi;exact ⟨o,z⟩
 have hB:∀ b∈[L,e,it],b<s.heap.objs.size:=fun b hb=>(by obtain ⟨o,q⟩:=hY b hb;exact dK q)
 refine cE (BI (dP (B5 rfl rfl hn V1 (eU ?_)) rfl));cases b with
 | true=>
  rw [if_pos rfl];have YF:pW false r=oZ:=hl;have Xr:=xt (i+1) false r;rw [YF] at Xr;have hg:gen i true (c::r)= .tup [.int (i:Nat),.str [92,c]]::gen (i+1) false r:=rfl;rw [hg] at QD ⊢;rw [aI];refine cE (wj (pre:=pre) UG rfl XY hn Rz hs hB (fun _=>hY) QD (by simp) (fun s1 Q h1 h2=>?_) rfl fun Su k1=>?_)
  ·refine hH (cK ?_);refine B5 rfl rfl (by show s1.heap.Ns L m;rw [h1];exact hn) hch ?_;refine add_str (fun t' tk=>?_) ?_
   ·rw [K0];exact h2 _ _
   ·show (1+1:Nat)<=dw;decide
  ·replace k1:=k1 Xr;have VU:Su.heap.Ns L m:=Ns.keep hn (k1 L (by simp));refine cE (vw (wZ (v:= .bool false) rfl VU (fun hq=>gc (hq _)) rfl fun h' tk h1 sb=>?_));refine cC (cC ?_);exact Vh false Su _ (mk h1 (by simp) (by rw [if_neg (by decide)];exact Rz) fun b hb o q=>nb sb b hb o (k1 b (av _ hb) o q)) ((QO.refl _ _).step (fun b o hb q=>sb.extBut b o (fun z=>hb (by simp [z])) q)) ⟨pre++[.tup [.int (i:Nat),.str [92,c]]],by rw [QD];simp⟩ YF
 | false=>
  rw [if_neg aJ];refine cE (BI ?_);refine ma (B5 rfl rfl hn hch (cK (eq_str (eU ?_)))) rfl;have aby:(({cps:=#[c]}:Str)==bB "\\")=decide (c=92):=by rw [<-ou];show ([c]==[92])=_;by_cases h:c=92<;>simp [h]
  rw [aby];by_cases hc:c=92
  ·rw [if_pos (decide_eq_true hc)];subst hc;have hg:gen i false (92::r)=gen (i+1) true r:=rfl;rw [hg] at QD ⊢;refine cE (vw (wZ (v:= .bool true) rfl (by exact hn) (fun hq=>gc (hq _)) rfl fun h' tk h1 sb=>?_));refine cC (cC (cC ?_));refine Vh true Qu _ (mk h1 (by simp) (by rw [if_neg (by decide)];exact Rz) fun b hb o q=>nb sb b hb o q) (hs.step (fun b o hb q=>sb.extBut b o (fun z=>hb (by simp [z])) q)) ⟨pre,QD⟩ hl
  ·rw [if_neg (by simpa using hc)];have YF:pW false r=oZ:=by
    have z:pW (decide (c=92)) r=oZ:=hl;rwa [decide_eq_false hc] at z
   have Xr:=xt (i+1) false r;rw [YF] at Xr;have hg:gen i false (c::r)= .tup [.int (i:Nat),.str [c]]::gen (i+1) false r:=by show (if c=92 then _ else _)=_;rw [if_neg hc]
   rw [hg] at QD ⊢;rw [aI];refine cE (wj (s:={s with toks:=s.toks+1}) (pre:=pre) UG rfl XY hn Rz (hs.step fun _ _ _ q=>q) hB (fun _=>hY) QD (by simp) (fun s1 Q h1 h2=>?_) rfl fun Su k1=>?_)
   ·refine B5 rfl rfl (by show s1.heap.Ns L m;rw [h1];exact hn) hch ?_;exact h2 u s1.toks
   ·replace k1:=k1 Xr;have VU:Su.heap.Ns L m:=Ns.keep hn (k1 L (by simp));refine cC (cC (cC ?_));exact Vh false Su _ (mk VU V1 Rz fun b hb o q=>k1 b (av _ hb) o q) (QO.refl _ _) ⟨pre++[.tup [.int (i:Nat),.str [c]]],by rw [QD];simp⟩ YF
theorem GS:∀ (hh:(A.over (.forLoop yD (.ref e) ub [] (qg L qn a code)) fs).handled=none) (UG:nE fs=none) (XY:fs.any kc=false) (Wv:e≠L) (Ws:it≠L) (ZP:e≠it) (Xn:∀ b RW s' m tp,s'.heap.Ns L m->m "escape" =some (.bool b)->m "pos" =some (.int ((X.cps.size-1:Nat):Int) tp)->QO [L,e,it] RW s'->(∃ pre,all=pre++gen X.cps.size b [])->b=oZ->e<s'.heap.objs.size->
   cq (aC P0 J.w) A (zV [L,e,it] oZ) (zA J [L,e,it] oZ all) (gen X.cps.size b []).length RW (.block [] (qg L qn a code)) (leafOf (.ok .next)) fs s'),∀ (k i:Nat) (b:Bool) (Qu s:ah),X.cps.size-i=k->i<=X.cps.size->GI L e it X t i b s.heap->QO [L,e,it] Qu s->(∃ pre,all=pre++gen i b (X.cps.toList.drop i))->pW b (X.cps.toList.drop i)=oZ->
   cq (aC P0 J.w) A (zV [L,e,it] oZ) (zA J [L,e,it] oZ all) (gen i b (X.cps.toList.drop i)).length Qu (.forLoop yD (.ref e) ub [] (qg L qn a code)) ((aC P0 J.w).den (.forLoop yD (.ref e) ub [] (qg L qn a code))) fs s:=by iterate 7
 intro k;induction k with
 | zero=>
  intro i b Qu s hk hi ahg hs QD hl;obtain rfl:i=X.cps.size:=by omega
  rw [List.drop_of_length_le (by simp)] at QD hl ⊢;obtain ⟨⟨m,tp,h1,h2,h3⟩,⟨old,h4⟩,h5⟩:=ahg;have D:=KP (J:=J) (A:=(A.over (.forLoop yD (.ref e) ub [] (qg L qn a code)) fs).in1) hh it X t;refine wM (wpAny_pyNext_enum_endD D h4 h5 fun h' ext=>?_);refine yt (Xn b Qu _ m tp (Ns.keep h1 fun o q=>ext L o (dz Ws) q) h2 h3 (hs.step (fun b o hb q=>ext b o (fun z=>hb (by simp [z])) q)) QD hl (dK (ext e _ ZP h4)))
 | succ k Qo=>
  intro i b Qu s hk hi ahg hs QD hl;have RO:i<X.cps.size:=by omega
  have hd:X.cps.toList.drop i=X.cps[i]::X.cps.toList.drop (i+1):=by rw [fY (by simpa using RO)];simp
  rw [hd] at QD hl ⊢;obtain ⟨⟨m,tp,h1,h2,h3⟩,⟨old,h4⟩,h5⟩:=ahg;have heH:e<s.heap.objs.size:=dK h4;have hiH:it<s.heap.objs.size:=by obtain ⟨o,q,_⟩:=h5;exact dK q
  have hLH:L<s.heap.objs.size:=h1.lt;have D:=KP (J:=J) (A:=(A.over (.forLoop yD (.ref e) ub [] (qg L qn a code)) fs).in1) hh it X t;refine wM (wpAny_pyNext_enum_itemD D h4 h5 RO ZP (by simpa using ZP) fun x UH tk hP heo RE ht hz Sz=>?_);obtain ⟨c,u,hc,rfl⟩:=hP;obtain rfl:c=X.cps[i]:=by rw [cW RO] at hc;cases hc;rfl
  refine wpAny_letOwnedTupleGo_enum heo fun Ry Vp RZ=>?_;replace RZ:bW e UH Ry:=RZ;have Yj:Ry.IsTuple s.heap.objs.size #[.int i tk,.str ⟨#[X.cps[i]]⟩ u]:=⟨_,(RZ.2 _ (iX heH)).trans ht,rfl,_,rfl⟩
  have Ye:Ry.objs.size=s.heap.objs.size+1:=RZ.1.trans hz;refine wpAny_assign_Tuple hh Yj rfl rfl fun RX U9=>?_;replace U9:fw Ry.objs.size Ry RX:=U9;have U3:∀ b o,b<s.heap.objs.size->Ry.get? b=some o->RX.get? b=some o:=fun b o hb x=>U9 b o (by rw [Ye];exact fR (iT hb)) x;have Yr:RX.Ns L m:=((h1.at fun o x=>Sz _ o (dz Wv) (dz Ws) x).sameBut RZ (dz Wv)).at fun o x=>U3 _ o hLH x;show aD _ _ (do lH [.str ⟨#[X.cps[i]]⟩ u] (assign (.Name "pos" ⟨5,8,5,11⟩) (qg L qn a code) (.int i tk));do lH [] (assign (.Name "ch" ⟨5,13,5,15⟩) (qg L qn a code) (.str ⟨#[X.cps[i]]⟩ u));pure ()) _ _ _;refine ae (bu (cQ (fh rfl Yr (fun S4 Yq Vc=>?_) rfl)));replace Vc:bW L RX S4:=Vc;refine ae (bu (cQ (fh rfl Yq (fun S3 Yp Vb=>ay ?_) rfl)));replace Vb:bW L S4 S3:=Vb;have up:∀ b o,b≠L->b<s.heap.objs.size->Ry.get? b=some o->S3.get? b=some o:=fun b o hb hl q=>Vb.extBut b o hb (Vc.extBut b o hb (U3 b o hl q));have aa8:S3.IsStrIter it (hW X) X t (i+1):=by obtain ⟨o,q,r⟩:=RE;exact ⟨o,up _ _ Ws hiH (RZ.extBut _ _ (dz ZP) q),r⟩
  have abl:IsEnum S3 e it ((i:Int)+1) _:=up _ _ Wv heH Vp;refine Gj (m:=fun y=>if y="ch" then some (.str ⟨#[X.cps[i]]⟩ u) else if y="pos" then some (.int i tk) else m y) UG XY Wv Ws Yp (by rw [if_neg (by decide),if_neg (by decide)];exact h2) (by rw [if_neg (by decide),if_pos rfl]) (by rw [if_pos rfl]) abl aa8
   (hs.step fun b o hb q=>?_) QD hl fun b' RW s' g1 g2 g3 g4=>seg_again rfl (Qo (i+1) b' RW s' (by omega) (by omega) g1 g2 g3 g4)
  ·have Sv:b≠L/\b≠e/\b≠it:=by simpa using hb
   exact up b o Sv.1 (dK q) (RZ.extBut b o Sv.2.1 (Sz b o Sv.2.1 Sv.2.2 q))
end
section
variable {J:Cx} {A:bf} {s Qu:ah} {L a:Addr} {qn:Str} {code:ag} {X:Str} {t:Tok}
theorem GO:∀ {m0:Str->Option ag} (fx:Fx J) (hh:A.handled=none) (hF:∀ a o,F0 J a=some o->s.heap.get? a=some o) (Xw:F0 J L=none) (hn:s.heap.Ns L m0) (ha:m0 "addr" =some (.str X t)),cq (aC P0 J.w) A (zV [L,s.heap.objs.size+1,s.heap.objs.size] (pW false X.cps.toList)) (zA J [L,s.heap.objs.size+1,s.heap.objs.size] (pW false X.cps.toList) (gen 0 false X.cps.toList)) (gen 0 false X.cps.toList).length s (.func RC.body (qg L qn a code)) ((aC P0 J.w).den (.func RC.body (qg L qn a code))) [] s:=by iterate 7
 have hLn:L<s.heap.objs.size:=hn.lt;obtain ⟨N,hN⟩:∃ N,N=s.heap.objs.size:=⟨_,rfl⟩
 rw [<-hN] at hLn ⊢;refine seg_func ?_;show cq _ A _ _ _ s _ ((gg RC.body _).wrap _ _ _ _) [] s;refine cE (vw (wZ (v:= .int 0 s.toks) rfl hn (fun hq=>bO (hq _)) rfl fun h1 tk1 n1 b1=>?_));refine cE (vw (wZ (v:= .bool false) rfl n1 (fun hq=>gc (hq _)) rfl fun h2 Zp n2 b2=>?_));replace b1:bW L s.heap h1:=b1;replace b2:bW L h1 h2:=b2;have z2:h2.objs.size=N:=by rw [b2.1,b1.1,hN]
 have nL:∀ b o,F0 J b=some o->h2.get? b=some o:=fun b o q=>by
  have:b≠L:=fun z=>by rw [z,Xw] at q;cases q
  exact b2.extBut b o this (b1.extBut b o this (hF b o q))
 refine cE (Jx (fun _=>rfl) ?_);have cf:=uj fx (f:="enumerate") (by decide);have ld:∀ {B:bf} {Q:ag->ah->Prop} {E:ag->ah->Prop} {s1:ah},s1.heap=h2->Q (.type (bB "enumerate").toString) s1->aD (aC P0 J.w) B (loadGlobal (qg L qn a code) "enumerate") Q E s1:=by
  intro B Q E s1 e hq;obtain ⟨⟨mg,mb,h1,h2,h3 | ⟨h3,h4⟩⟩,_⟩:=cf
  ·exact ke (h1.ns (by rw [e];exact nL)) h3 hq
  ·exact j1 (h1.ns (by rw [e];exact nL)) h3 (h2.ns (by rw [e];exact nL)) h4 hq
 refine bH (bk rfl rfl (ld rfl ?_) (by decide));refine pk (first:=[]) cf rfl ?_;refine aR (B5 rfl rfl n2 (by rw [if_neg (by decide),if_neg (by decide)];exact ha) ?_) rfl;refine aZ ⟨nL,?_⟩;refine call_enumerate_str fun h3 e3 i3 z3 k3=>?_;replace z3:h3.objs.size=h2.objs.size+2:=z3;replace e3:IsEnum h3 (h2.objs.size+1) h2.objs.size 0 .none:=e3;replace i3:h3.IsStrIter h2.objs.size (hW X) X t 0:=i3;replace k3:∀ b o,h2.get? b=some o->h3.get? b=some o:=k3;rw [z2] at e3 i3 z3;show aD _ _ (kz (.ref (h2.objs.size+1))) _ _ _;rw [z2];refine wpAny_pyIter_enum e3 fun p=>?_;have Wv:N+1≠L:=iX (iT hLn);have Ws:N≠L:=iX hLn;have n3:h3.Ns L _:=Ns.keep n2 (k3 L);have since:QO [L,N+1,N] s {s with heap:=h3,toks:=Zp}:=⟨h3,Zp,rfl,fun b o hb q=>by have:b≠L:=fun z=>hb (by simp [z]);exact k3 b o (b2.extBut b o this (b1.extBut b o this q))⟩
 refine GS (all:=gen 0 false X.cps.toList) (by exact hh) rfl rfl Wv Ws (mB N) (fun b RW s' m tp VG V1 Rz hs QD hbl hes=>?_) (X.cps.size-0) 0 false s _ rfl (jL _) ⟨⟨_,s.toks,n3,by rw [if_pos rfl],by rw [if_neg (by decide),if_pos rfl];rfl⟩,⟨_,e3⟩,i3⟩ since ⟨[],rfl⟩ rfl;refine seg_leaf (.ok .next) ?_;show cq _ A _ _ _ RW _ (Sem.wrap _ _ _ _ (gg [Ke] (qg L qn a code))) [] s';refine cE (BI (dP (B5 rfl rfl VG V1 (eU ?_)) rfl));obtain ⟨pre,QD⟩:=QD;cases b with
 | false=>rw [if_neg aJ];refine cC (cC ?_);exact seg_end (.ok (.ret .none)) ⟨rfl,rfl,by rw [<-hbl,if_neg aJ];exact hs⟩
 | true=>
  rw [if_pos rfl];refine cE (wj (cs:=[92]) (tl:=[]) (pre:=pre) rfl rfl rfl VG Rz hs (fun b hb=>?_) (fun hc=>by rw [<-hbl] at hc;cases hc) QD (by simp) (fun s1 Q h1 h2=>cK (h2 _ _)) rfl fun Su k1=>?_)
  ·simp at hb;rcases hb with rfl | rfl | rfl
   ·exact VG.lt
   ·exact hes
   ·exact Nat.lt_of_succ_lt hes
  ·refine cC (cC ?_);exact seg_end (.ok (.ret .none)) ⟨rfl,rfl,QO.refl _ _⟩
end
section
variable {prog:bY} {w:jl} {A:bf} {E:ag->ah->Prop} {s:ah}
theorem A0:∀ {a:Addr} {g n:Nat} {gs:di} {P:Nat->ah->ah->Prop} {Y:nj} {Q:Option ag->ah->Prop} (hh:A.handled=none) (hl:s.heap.NoLimit) (RN:A.depth<cw) (hg:s.heap.IsGen a g) (Xi:s.gens[g]? =some gs) (XX:gs.Goes (aC prog w) A.in1 (fun n Qu r Ql=>r= .ok (.ret .none)/\P n Qu Ql) Y n (.send .none) (s.setGen g .running)) (hY:∀ v Ql V7,V7.bare=true->Y (n-1) (s.setGen g .running) v Ql (fun r' Su=>match n with
    | 0=>False
    | m+1=>V7.Goes (aC prog w) A.in1 (fun n Qu r Ql=>r= .ok (.ret .none)/\P n Qu Ql) Y m r' Su)->Q (some v) (Ql.setGen g V7)) (hP:∀ Ql,P n (s.setGen g .running) Ql->∀ h',(∀ b o,Ql.heap.get? b=some o->h'.get? b=some o)->Q none {Ql.setGen g .finished with heap:=h'}),aD (aC prog w) A (eF (.ref a)) Q E s:=by iterate 15
 unfold eF;refine ae (fB (dv (name:=bB "__next__") hg.typeIs slot_gen_next (eh slot_gen_next hg.typeIs entry_gen_next ?_ (args_gen_next _))));show aD _ A.in1 (ic (.ref a) (.send .none)) _ _ s;unfold ic;refine ae (bu (wpAny_genNumber hg (ae (wpAny_genState Xi ?_))));cases gs<;>first
  | exact XX.elim
  | (refine ae (wpAny_roomToWake hl RN ?_);show aD _ A.in1 (.resume g (.send .none) [] _) _ _ s;refine wpAny_resumeQ Xi XX (fun x Ql hx=>?_) (fun v Ql V7 hb hv=>ay ⟨v,rfl,ay (hY v Ql V7 hb hv)⟩);obtain ⟨rfl,hp⟩:=hx;show aD _ A.in1 (newExc (.type "StopIteration") [] >>=_) _ _ _;refine ae ?_;simp only [newExc,newTuple];refine ae (dj ?_ (by size_fits));refine ae (m:=iM _ _) (gb (a:=iI) (by first | rfl | (simp only [iM];rfl)) ?_);refine dj ?_ (by size_fits);unfold raiseNew;refine ae (ae (wpAny_handled ?_));rw [show A.in1.handled=none from hh];refine wpAny_throw (ae (nR (T:="StopIteration") (b:=true) ⟨_,ax _ rfl,rfl⟩ isSubtype_stop ?_));exact ay (hP Ql hp _ fun b o hb=>aF _ (aF _ hb)))
end
section
variable {J:Cx} {A:bf} {W W0 W':Wd} {s s0 s':ah} {sc:aX} {st st':St} {env:Env} {ow U2:List Addr} {n:Nat} {B:Bs} {X Y:List Addr}
theorem Qp.Zb:∀ {h':Heap} {QM:Array di} {tk:Nat} (t:Qp J X W0 s0 W s) (RY:Qs J W0 s0) (hY:∀ b∈Y,s0.heap.get? b=none/\W.F b=none/\b∉J.T/\b∉W.QK.flatten) (k:∀ b o,b∉Y->s.heap.get? b=some o->h'.get? b=some o) (hg:∀ (i:Nat) (g:di),s0.gens[i]? =some g->QM[i]? =some g) (hb:ij QM),Qp J X W0 s0 W {s with heap:=h',gens:=QM,toks:=tk}:=by iterate 9
 exact {
  ok:={
   sub:=fun a o e=>k a o (fun q=>by rw [(hY a q).2.1] at e;cases e) (t.ok.sub a o e)
   base:=t.ok.base
   RD:=t.ok.RD
   low:=fun a o e=>by obtain ⟨o1,e1⟩:=RY.low a o e;obtain ⟨o2,e2⟩:=t.there a o1 e1;exact ⟨o2,k a o2 (fun q=>by rw [(hY a q).1] at e1;cases e1) e2⟩
   tab:=fun T hT=>(t.ok.tab T hT).keep (PM.le.refl _) fun o e=>k _ o (fun q=>(hY _ q).2.2.1 (cM hT)) e
   Rg:=t.ok.Rg
   Rm:=t.ok.Rm
   obj:=fun i mo a fp h1 h2 h3=>(t.ok.obj i mo a fp h1 h2 h3).keep (PM.le.refl _) (Pre.refl _) fun b hb o e=>k b o (fun q=>(hY b q).2.2.2 (qP h3 hb)) e
   nodup:=t.ok.nodup
   RI:=fun a ha=>⟨(t.ok.RI a ha).1,(t.ok.RI a ha).2.1,(by obtain ⟨o,e⟩:=(t.ok.RI a ha).2.2;exact ⟨o,k a o (fun q=>(hY a q).2.2.2 ha) e⟩)⟩
   bare:=hb
   os:=t.ok.os}
  le:=t.le
  fresh:=t.fresh
  keep:=fun a o h1 h2 h3 e=>k a o (fun q=>by rw [(hY a q).1] at e;cases e) (t.keep a o h1 h2 h3 e)
  there:=fun a o e=>by obtain ⟨o2,e2⟩:=t.there a o e;exact ⟨o2,k a o2 (fun q=>by rw [(hY a q).1] at e;cases e) e2⟩
  as:=t.as
  QK:=t.QK
  gens:=hg}
theorem Run.gen:∀ (r:Run J W0 s0 B sc env st ow W s) (tr:Qp J [] W0 s0 W' s') (le:PM.le W.F W'.F) (S6:∀ a o,W'.F a=some o->W.F a=some o\/s.heap.get? a=none) (has:W'.as=W.as) (Ut:W'.QK=W.QK) (hY:∀ b∈Y,B.s.heap.get? b=none/\b∉am env++ow) (k:∀ b o,b∉Y->s.heap.get? b=some o->s'.heap.get? b=some o) (hg:∀ (i:Nat) (g:di),B.s.gens[i]? =some g->s'.gens[i]? =some g),Run J W0 s0 B sc env st ow W' s':=by iterate 9
 exact {
  RY:=r.RY
  tr:=tr
  R:=r.R.U7 (fun a ha o e=>k a o (fun q=>(hY a q).2 ha) e) le (by rw [has];exact Pre.refl _) S6 fun a ha=> .inl (by rw [Ut] at ha;exact ha)
  fr:=r.fr
  Td:=r.Td
  le:=r.le.trans le
  as:=by rw [has];exact r.as
  gens:=hg
  there a o e:=by obtain ⟨o1,e1⟩:=r.there a o e;exact ⟨o1,k a o1 (fun q=>by rw [(hY a q).1] at e;cases e) e1⟩
  keep a h1 h2 h3:=by
   obtain ⟨k1,k2⟩:=r.keep a h1 h2 h3;have ne:a∉Y:=fun q=>by obtain ⟨_,_,_,o,e⟩:=h1;rw [(hY a q).1] at e;cases e
   obtain ⟨z1,z2,z3,o,z4⟩:=k1;refine ⟨⟨?_,z2,by rw [Ut];exact z3,o,k a o ne z4⟩,fun o e=>k a o ne (k2 o e)⟩;cases e:W'.F a with
   | none=>rfl
   | some o'=>
    rcases S6 a o' e with q | q
    ·rw [z1] at q;cases q
    ·rw [z4] at q;cases q
  Tc:=r.Tc}
end
noncomputable def UT (J:Cx) (A:bf) (I:Addr) (gi:Nat) (L:Addr) (ds:List D) (s:ah) (Y:List Addr):Prop:=
 s.heap.IsGen I gi/\
 ((∃ qn a code X t m0,s.gens[gi]? =some (.fresh (.func RC.body (qg L qn a code)))/\Y=[L]/\s.heap.Ns L m0/\m0 "addr" =some (.str X t)/\ds=gen 0 false X.cps.toList)\/
  (∃ gs Y0 oZ all,s.gens[gi]? =some gs/\Y=(if oZ&&ds.length==0 then [] else Y0)/\ds.length<=all.length/\all.drop (all.length-ds.length)=ds/\
   ∀ Su:ah,(∀ b∈Y,∀ o,s.heap.get? b=some o->Su.heap.get? b=some o)->gs.Goes (aC P0 J.w) A.in1 (zV Y0 oZ) (zA J Y0 oZ all) ds.length (.send .none) Su))
section
variable {J:Cx} {A:bf} {W:Wd} {s s':ah} {I L:Addr} {gi:Nat} {ds:List D} {Y:List Addr}
theorem UT.keep:∀ (ahg:UT J A I gi L ds s Y) (k:∀ b∈I::Y,∀ o,s.heap.get? b=some o->s'.heap.get? b=some o) (kg:∀ g,s.gens[gi]? =some g->s'.gens[gi]? =some g),UT J A I gi L ds s' Y:=by iterate 3
 obtain ⟨⟨o,nm,qn,ho,r⟩,ahg⟩:=ahg;refine ⟨⟨o,nm,qn,k I (by simp) _ ho,r⟩,?_⟩;rcases ahg with ⟨qn,a,code,X,t,m0,h1,rfl,h3,h4⟩ | ⟨gs,Y0,oZ,all,h1,h2,h3,h4,h5⟩
 ·exact .inl ⟨qn,a,code,X,t,m0,kg _ h1,rfl,Ns.keep h3 (k L (by simp)),h4⟩
 ·exact .inr ⟨gs,Y0,oZ,all,kg _ h1,h2,h3,h4,fun Su h6=>h5 Su fun b hb o e=>h6 b hb o (k b (av _ hb) o e)⟩
theorem UT.Za:∀ (fx:Fx J) (hh:A.handled=none) (ahg:UT J A I gi L ds s Y) (hF:∀ a o,F0 J a=some o->s.heap.get? a=some o) (Xw:∀ b∈Y,F0 J b=none),s.heap.IsGen I gi/\∃ gs Y0 oZ all,s.gens[gi]? =some gs/\(∀ b∈(if oZ&&ds.length==0 then [] else Y0),b∈Y\/s.heap.get? b=none)/\ds.length<=all.length/\all.drop (all.length-ds.length)=ds/\
   gs.Goes (aC P0 J.w) A.in1 (zV Y0 oZ) (zA J Y0 oZ all) ds.length (.send .none) (s.setGen gi .running):=by iterate 5
 obtain ⟨hg,ahg⟩:=ahg;refine ⟨hg,?_⟩;rcases ahg with ⟨qn,a,code,X,t,m0,h1,rfl,h3,h4,rfl⟩ | ⟨gs,Y0,oZ,all,h1,h2,h3,h4,h5⟩
 ·refine ⟨_,[L,s.heap.objs.size+1,s.heap.objs.size],pW false X.cps.toList,gen 0 false X.cps.toList,h1,fun b hb=>?_,bN _,by simp,rfl,?_⟩
  ·rw [xt,if_neg aJ] at hb;simp at hb;rcases hb with rfl | rfl | rfl
   ·exact .inl (by simp)
   ·refine .inr ?_;cases q:s.heap.get? (s.heap.objs.size+1) with | none=>rfl | some o=>exact absurd (dK q) (mC (bV _))
   ·exact .inr (bv _)
  ·exact GO (s:=s.setGen gi .running) fx hh hF (Xw L (by simp)) h3 h4
 ·exact ⟨gs,Y0,oZ,all,h1,fun b hb=> .inl (h2▸hb),h3,h4,h5 _ fun _ _ _ e=>e⟩
theorem rP:∀ {g:di} (hb:ij s.gens) (h:g.bare=true),ij (s.setGen gi g).gens:=by iterate 3
 exact (fun y hy=>by
 obtain ⟨i,hi,rfl⟩:=Array.mem_iff_getElem.mp hy;have e:(s.setGen gi g).gens[i]? =some (s.setGen gi g).gens[i]:=cW hi;by_cases q:i=gi
 ·subst q;have RO:i<s.gens.size:=by simpa [Shared.setGen] using hi
  have:(s.setGen i g).gens[i]? =some g:=mM (cW RO);rw [this] at e;exact (bh e)▸h
 ·rw [(fz s gi g).2 i q] at e;exact hb _ (Array.mem_of_getElem? e))
theorem DQ:∀ {d:D} {Q:Option ag->ah->Prop} {E:ag->ah->Prop} (fx:Fx J) (hA:A.handled=none) (RN:A.depth<cw) (ahg:UT J A I gi L (d::ds) s Y) (hF:∀ a o,F0 J a=some o->s.heap.get? a=some o) (Xw:∀ b∈Y,F0 J b=none) (hb:ij s.gens) (hI:I∉Y) (hIs:∃ o,s.heap.get? I=some o) (hQ:∀ T p cs t u h' QM tk Y',d= .tup [.int p,.str cs]->s.heap.get? T=none->cs.length<=2->h'.get? T=some {cls:= .type "tuple",data:= .seq #[.int p t,.str ⟨cs.toArray⟩ u]}->
   (∀ b o,b∉Y->s.heap.get? b=some o->h'.get? b=some o)->ij QM->(∀ i,i≠gi->QM[i]? =s.gens[i]?)->(∀ b∈Y',(b∈Y\/s.heap.get? b=none)/\b≠T/\∃ o,h'.get? b=some o)->
   UT J A I gi L ds {s with heap:=h',gens:=QM,toks:=tk} Y'->Q (some (.ref T)) {s with heap:=h',gens:=QM,toks:=tk}),aD (aC P0 J.w) A (eF (.ref I)) Q E s:=by iterate 13
 obtain ⟨hg,gs,Y0,oZ,all,Xi,hY,hlen,ZS,XX⟩:=ahg.Za fx hA hF Xw;have hc:(oZ&&(d::ds).length==0)=false:=by simp
 rw [hc,if_neg aJ] at hY;have Yu:s.heap.NoLimit:=by obtain ⟨mc,q1,q2⟩:=fx.SI;exact ⟨mc,q1.ns hF,q2⟩
 refine A0 (P:=fun n Qu Ql=>n=0/\QO (if oZ then [] else Y0) Qu Ql) hA Yu RN hg Xi XX (fun v Ql V7 Uu hy=>?_) (fun Ql hp=>absurd hp.1 (by simp));obtain ⟨⟨d',Vr,T,p,cs,t,u,rfl,rfl,hT0,hTn,X0,abC⟩,⟨h1,tk,rfl,k1⟩,VD,VW⟩:=hy;have e1:(d::ds).length-1=ds.length:=by simp
 rw [e1] at Vr VD VW;have hdd:all[all.length-1-ds.length]? =some d:=by have:=congrArg (·[0]?) ZS;simp only [fJ,List.getElem?_cons_zero,aI] at this;rw [<-this];congr 1;omega
 rw [hdd] at Vr;cases Vr;have hk:∀ b o,b∉Y->s.heap.get? b=some o->h1.get? b=some o:=fun b o hb e=>k1 b o (fun q=>by
  rcases hY b q with z | z
  ·exact hb z
  ·rw [z] at e;cases e) e
 have abn:all.drop (all.length-ds.length)=ds:=by
  have:=congrArg (·.drop 1) ZS;simp only [mY,List.drop_succ_cons,j0,aI] at this;have h2:all.length-ds.length=all.length-(ds.length+1)+1:=by simp only [aI] at hlen;omega
  rw [h2];exact this
 have aba:({s.setGen gi .running with heap:=h1,toks:=tk}:ah).gens[gi]? =some .running:=mM Xi;refine hQ T p cs t u h1 _ tk (if oZ&&ds.length==0 then [] else Y0) rfl hTn X0 abC hk (rP (s:={s.setGen gi .running with heap:=h1,toks:=tk}) (rP hb rfl) Uu) (fun i hi=>?_) (fun b hb=>?_) ⟨?_,.inr ⟨V7,Y0,oZ,all,?_,rfl,by simp only [aI] at hlen;omega,abn,fun Su h6=>VW Su fun hc b hb o e=>h6 b (by rw [hc,if_neg aJ];exact hb) o e⟩⟩
 ·exact ((fz ({s.setGen gi .running with heap:=h1,toks:=tk}:ah) gi V7).2 i hi).trans ((fz s gi .running).2 i hi)
 ·cases hl:(oZ&&ds.length==0) with | true=>rw [hl,if_pos rfl] at hb;cases hb | false=>rw [hl,if_neg aJ] at hb;exact ⟨hY b hb,fun q=>hT0 (q▸hb),VD hl b hb⟩
 ·obtain ⟨o,nm,qn,ho,r⟩:=hg;exact ⟨o,nm,qn,hk I o hI ho,r⟩
 ·exact mM aba
theorem E3:∀ {Q:Option ag->ah->Prop} {E:ag->ah->Prop} (fx:Fx J) (hA:A.handled=none) (RN:A.depth<cw) (ahg:UT J A I gi L [] s Y) (hF:∀ a o,F0 J a=some o->s.heap.get? a=some o) (Xw:∀ b∈Y,F0 J b=none) (hb:ij s.gens) (hQ:∀ h' QM tk,(∀ b o,b∉Y->s.heap.get? b=some o->h'.get? b=some o)->ij QM->(∀ i,i≠gi->QM[i]? =s.gens[i]?)->Q none {s with heap:=h',gens:=QM,toks:=tk}),aD (aC P0 J.w) A (eF (.ref I)) Q E s:=by iterate 10
 obtain ⟨hg,gs,Y0,oZ,all,Xi,hY,hlen,ZS,XX⟩:=ahg.Za fx hA hF Xw;have Yu:s.heap.NoLimit:=by obtain ⟨mc,q1,q2⟩:=fx.SI;exact ⟨mc,q1.ns hF,q2⟩
 refine A0 (P:=fun n Qu Ql=>n=0/\QO (if oZ then [] else Y0) Qu Ql) hA Yu RN hg Xi XX (fun v Ql V7 Uu hy=>(hy.2.2.2 Ql fun _ _ _ _ e=>e).elim) (fun Ql hp h' hk=>?_)
 ·obtain ⟨_,h1,tk,rfl,k1⟩:=hp;have ZU:∀ b∈(if oZ then [] else Y0),b∈Y\/s.heap.get? b=none:=fun b hb=>hY b (by cases oZ<;>simpa using hb);refine hQ h' _ tk (fun b o hb e=>hk b o (k1 b o (fun q=>?_) e)) (rP (s:={s.setGen gi .running with heap:=h1,toks:=tk}) (rP hb rfl) rfl) (fun i hi=>?_)
  ·rcases ZU b q with z | z
   ·exact hb z
   ·rw [z] at e;cases e
  ·exact ((fz ({s.setGen gi .running with heap:=h1,toks:=tk}:ah) gi .finished).2 i hi).trans ((fz s gi .running).2 i hi)
end
section
variable {J:Cx} {A:bf} {W W0 W':Wd} {s s0 s':ah} {sc:aX} {st st':St} {env:Env} {ow U2:List Addr} {n:Nat} {B:Bs} {X Y:List Addr}
theorem uE:∀ {gens:Array di} {i:Nat} {g:di} (h:gens[i]? =some g),i<gens.size:=by iterate 4 exact ((Array.getElem?_eq_some_iff.mp h).1)
noncomputable def Mq (J:Cx) (W:Wd) (s s0:ah) (B:Bs) (env:Env) (ow:List Addr) (b:Addr):Prop:=Apart J W s.heap b/\b∉am env/\b∉ow/\B.s.heap.get? b=none/\s0.heap.get? b=none
theorem Jw:∀ {I L:Addr} {gi:Nat} {t:Expr} {ds:List D} {b:List Stmt} {g:G} {fl:Fl} {g':G} (fx:Fx J) (ok:TO J n) (h:wH P0 (n+1) sc st t ds b g=some (fl,st',g')) (hg:W.H=g) (r:Run J W0 s0 B sc env st ow W s) (Q4:Qx (n+1) A) (RE:UT J A I gi L ds s Y) (hY:∀ b∈I::Y,Mq J W s s0 B env ow b) (X1:I∉Y) (hB:B.s.gens.size<=gi) (h0:s0.gens.size<=gi),bQ (aC P0 J.w) A (.forLoop t (.ref I) b [] env) (fun r s'=>∃ f,r= .ok f/\qw J W0 s0 B sc env st' g' fl f s') s:=by iterate 20
 have hA:Qx n A:=Q4.le (bV n);have RN:A.depth<cw:=by have:=hA.2.1;omega
 replace h:=bi h;obtain ⟨⟨X7,gF,rr⟩,h,Ud⟩:=h;cases Ud;replace h:iterLoop (ME (fs P0 n) sc t b) ds st g=some (X7,gF,rr):=h;generalize SN:ME (fs P0 n) sc t b=step at h;refine mQ (fun k s'=>∃ W' Rh QZ g1 S1 Y,k=Rh.length+1/\iterLoop step Rh QZ g1=some (X7,gF,rr)/\Run J W0 s0 B sc env QZ S1 W' s'/\W'.H=g1/\UT J A I gi L Rh s' Y/\(∀ b∈I::Y,Mq J W' s' s0 B env S1 b)/\I∉Y) ?_ (ds.length+1) ⟨W,ds,st,g,ow,Y,rfl,h,r,hg,RE,hY,X1⟩;clear hY X1 RE r hg h;rintro k s' ⟨W',Rh,QZ,g1,S1,Y,rfl,h,r,hg,RE,hY,X1⟩;have V6:∀ b∈Y,F0 J b=none:=fun b hb=>by cases e:F0 J b with | none=>rfl | some o=>have:=r.ok.le0 b o e;rw [(hY b (av _ hb)).1.1] at this;cases this
 have VH:∀ b∈I::Y,b∉am env++S1:=fun b hb hm=>by
  rcases bF.mp hm with q | q
  ·exact (hY b hb).2.1 q
  ·exact (hY b hb).2.2.1 q
 have hgB:∀ {QM:Array di},(∀ i,i≠gi->QM[i]? =s'.gens[i]?)->(∀ (i:Nat) (g:di),B.s.gens[i]? =some g->QM[i]? =some g)/\∀ (i:Nat) (g:di),s0.gens[i]? =some g->QM[i]? =some g:=fun hk=>by
  refine ⟨fun i g e=>?_,fun i g e=>?_⟩
  ·rw [hk i (fR (dB (uE e) hB))];exact r.gens i g e
  ·rw [hk i (fR (dB (uE e) h0))];exact r.tr.gens i g e
 have trG:∀ {h':Heap} {QM:Array di} {tk:Nat},(∀ b o,b∉Y->s'.heap.get? b=some o->h'.get? b=some o)->ij QM->(∀ i,i≠gi->QM[i]? =s'.gens[i]?)->Qp J [] W0 s0 W' {s' with heap:=h',gens:=QM,toks:=tk}:=fun k hb hk=>r.tr.Zb (Y:=Y) r.RY (fun b hb=>let z:=hY b (av _ hb);⟨z.2.2.2.2,z.1.1,z.1.2.1,z.1.2.2.1⟩) k (hgB hk).2 hb;have hYB:∀ b∈Y,B.s.heap.get? b=none/\b∉am env++S1:=fun b hb=>⟨(hY b (av _ hb)).2.2.2.1,VH b (av _ hb)⟩
 cases Rh with
 | nil=>cases h;refine E3 fx hA.1 RN RE r.ok.QB V6 r.ok.bare fun h' QM tk kk YS hk=>?_;have r1:=r.gen (trG (tk:=tk) kk YS hk) (PM.le.refl _) (fun _ _ e=> .inl e) rfl rfl hYB kk (hgB hk).1;exact aW ⟨_,rfl,W',hg,rfl,S1,r1⟩
 | cons d QI=>
  have body:∀ Se g2 x,step d QZ g1=some (Se,g2,x)->∃ ρ RU,p9 sc QZ t=true/\bn t d QZ.ρ=some ρ/\ceSs P0 n sc (QZ.withRho ρ) b g1=some (RU,Se,g2)/\x=rS RU:=fun Se g2 x e=>by cases SN;obtain ⟨u,e1,ρ,e2,⟨RU,st3,g3⟩,e3,e4⟩:=vK e;cases e4;exact ⟨ρ,RU,dl e1,e2,e3,rfl⟩
  refine DQ fx hA.1 RN RE r.ok.QB V6 r.ok.bare X1 (hY I (by simp)).1.2.2.2 fun T p cs tt u h' QM tk Y' hd hT X0 QE kk YS hk ZU VR=>?_;have nT:=r.ok.QQ hT;have leT:=xC (o:={cls:= .type "tuple",data:= .seq #[.int p tt,.str ⟨cs.toArray⟩ u]}) nT.1;have fT:∀ a o,(W'.Q8 T {cls:= .type "tuple",data:= .seq #[.int p tt,.str ⟨cs.toArray⟩ u]}).F a=some o->W'.F a=some o\/s'.heap.get? a=none:=fun a o e=>by
   by_cases q:a=T
   ·exact .inr (q▸hT)
   ·refine .inl ?_;have e:(if a=T then some _ else W'.F a)=some o:=e;rwa [if_neg q] at e
  have tr1:=Qp.Q8 (trG (tk:=tk) kk YS hk) QE (r.tr.Qy hT) nT.2.1 nT.2.2;have r1:=r.gen tr1 leT fT rfl rfl hYB kk (hgB hk).1;have rv:Rd J (W'.Q8 T {cls:= .type "tuple",data:= .seq #[.int p tt,.str ⟨cs.toArray⟩ u]}).F W'.as d (.ref T):=by subst hd;refine ⟨by simp [lim],T,[.int p tt,.str ⟨cs.toArray⟩ u],rfl,Sn.of (n:=0) (oT ..),?_⟩;exact ⟨_,_,rfl,⟨tt,rfl⟩,_,_,rfl,⟨by unfold lim;omega,u,rfl⟩,rfl⟩
  have hTI:T≠I:=fun q=>by obtain ⟨o,e⟩:=(hY I (by simp)).1.2.2.2;rw [<-q,hT] at e;cases e
  generalize YW:W'.Q8 T {cls:= .type "tuple",data:= .seq #[.int p tt,.str ⟨cs.toArray⟩ u]}=W1 at tr1 r1 rv leT fT;have Ra:W1.H=g1:=by rw [<-YW];exact hg
  have YN:W1.QK=W'.QK:=by rw [<-YW];rfl
  have abA:W1.as=W'.as:=by rw [<-YW];rfl
  have VN:∀ b∈I::Y',Mq J W1 {s' with heap:=h',gens:=QM,toks:=tk} s0 B env S1 b:=by
   have old:∀ b,b≠T->Mq J W' s' s0 B env S1 b->(∃ o,h'.get? b=some o)->Mq J W1 {s' with heap:=h',gens:=QM,toks:=tk} s0 B env S1 b:=fun b hbT z ho=>by refine ⟨⟨?_,z.1.2.1,by rw [YN];exact z.1.2.2.1,ho⟩,z.2⟩;rw [<-YW];show (if b=T then some _ else W'.F b)=none;rw [if_neg hbT];exact z.1.1
   intro b hb;rcases aq.mp hb with rfl | hb
   ·refine old _ (dz hTI) (hY _ (by simp)) ?_;obtain ⟨o,e⟩:=(hY b (by simp)).1.2.2.2;exact ⟨o,kk b o X1 e⟩
   ·obtain ⟨z1,z2,z3⟩:=ZU b hb;rcases z1 with z1 | z1
    ·exact old b z2 (hY b (av _ z1)) z3
    ·have nn:=r.ok.QQ z1;have ff:=r.Q2 z1;refine ⟨⟨?_,nn.2.1,by rw [YN];exact nn.2.2,z3⟩,fun hm=>ff (aE _ hm),fun hm=>ff (cU _ hm),r.RM z1,r.tr.Qy z1⟩;rw [<-YW];show (if b=T then some _ else W'.F b)=none;rw [if_neg z2];exact nn.1
  have abJ:I∉Y':=fun hm=>by
   rcases (ZU I hm).1 with z | z
   ·exact X1 z
   ·obtain ⟨o,e⟩:=(hY I (by simp)).1.2.2.2;rw [z] at e;cases e
  obtain ⟨oI,nm,qn,hoI,hcI,hdI,_⟩:=VR.1;refine pG hoI hcI hdI (by decide) ?_;have main:∀ Se g2 x,step d QZ g1=some (Se,g2,x)->aD (aC P0 J.w) A (assign t env (.ref T)) (fun _ Q9=>aD (aC P0 J.w) A (gg b env) (fun f QP=>∃ RU,x=rS RU/\∃ W3,W3.H=g2/\match RU with
     | .next=>f= .next/\∃ UA,Run J W0 s0 B sc env Se UA W3 QP/\UT J A I gi L QI QP Y'/\(∀ b∈I::Y',Mq J W3 QP s0 B env UA b)
     | .ret d=>∃ v,f= .ret v/\Rd J W3.F W3.as d v/\Qp J [] W0 s0 W3 QP) (fun _ _=>False) Q9) (fun _ _=>False) {s' with heap:=h',gens:=QM,toks:=tk}:=fun Se g2 x e=>by
   obtain ⟨ρ,RU,e1,e2,e3,rfl⟩:=body Se g2 x e;unfold p9 at e1;rw [ai] at e1;have QD:=aj.mp e1.1;refine af (um (Y:=am env) hA.1 e2 (fun x hx=>by have:=QD x hx;rw [ai] at this;exact ⟨this.2,this.1,Q3.frame⟩) (abA▸rv) r1.R r1.ok) (fun _ s2 ⟨k2,R2⟩=>?_) fun _ _ f=>f;have r2:=r1.Tb k2 (fun a ha=> .inl ha) R2;have S0:∀ b∈I::Y',Mq J W1 s2 s0 B env S1 b:=fun b hb=>⟨(VN b hb).1.keep k2,(VN b hb).2⟩
   have WT:UT J A I gi L QI s2 Y':=VR.keep (fun b hb=>(VN b hb).1.at k2 (VN b hb).2.1) fun g e=>k2.gens gi g e;refine af (ok.ss e3 Ra r2.rebase hA) (fun f s3 y0=>?_) fun _ _ f=>f;obtain ⟨W3,Sk,q⟩:=y0;refine ⟨RU,rfl,W3,Sk,?_⟩;cases RU with
   | ret d=>exact q
   | next=>
    obtain ⟨hf,UA,q⟩:=q;refine ⟨hf,UA,r2.join q,WT.keep (fun b hb=>(q.keep b (S0 b hb).1 (S0 b hb).2.1 (S0 b hb).2.2.1).2) fun g e=>q.gens gi g e,fun b hb=>?_⟩;obtain ⟨k3,k4⟩:=q.keep b (S0 b hb).1 (S0 b hb).2.1 (S0 b hb).2.2.1;refine ⟨k3,(S0 b hb).2.1,fun hm=>?_,(S0 b hb).2.2.2⟩;rcases q.Tc b hm with z | z
    ·exact (S0 b hb).2.2.1 z
    ·obtain ⟨_,_,_,o,e⟩:=(S0 b hb).1;rw [z] at e;cases e
  rcases pJ h with ⟨Se,g2,e,QL⟩ | ⟨Se,g2,x,e,QL⟩
  ·refine af (main _ _ _ e) (fun _ s2 h2=>af h2 (fun f s3 z2=>?_) fun _ _ f=>f.elim) fun _ _ f=>f.elim;obtain ⟨RU,hx,W3,Sk,q⟩:=z2;cases RU with | ret d=>cases hx | next=>obtain ⟨rfl,UA,r3,WS,aaw⟩:=q;exact ⟨QI.length+1,by simp,W3,QI,Se,g2,UA,Y',rfl,QL,r3,Sk,WS,aaw,abJ⟩
  ·refine af (main _ _ _ e) (fun _ s2 h2=>af h2 (fun f s3 z3=>?_) fun _ _ f=>f.elim) fun _ _ f=>f.elim;obtain ⟨RU,hx,W3,Sk,q⟩:=z3;cases QL;cases RU with | next=>cases hx | ret d=>cases hx;obtain ⟨v,rfl,rv3,t3⟩:=q;exact ⟨_,rfl,W3,Sk,v,rfl,rv3,t3⟩
end
noncomputable def Hr (J:Cx):Prop:=∃ mg mb a o fd,Uj (F0 J) bC mg/\Uj (F0 J) bU mb/\mg "_iter_escaped_chars" =some (.ref a)/\F0 J a=some o/\o.data= .func fd/\fd.body= .stmts RC.body/\fd.scope=RC.scope/\fd.globals=bC/\fd.closure=[]/\fd.builtins=bU/\
 QA (F0 J) fd.code fd.qualname/\∀ v:ag,iD fd ⟨[v],[]⟩=pure [(("addr" :Str),v)]
theorem CO:∀ {a b:Array di} (h:∀ (i:Nat) (g:di),a[i]? =some g->b[i]? =some g),a.size<=b.size:=by iterate 3
 rcases Nat.lt_or_ge b.size a.size with q | q
 ·have:=h b.size _ (cW q);rw [Array.getElem?_eq_none (bN _)] at this;cases this
 ·exact q
section
variable {J:Cx} {n:Nat}
theorem Aq:∀ (gf:Hr J),pL J 0:=by iterate 1 obtain ⟨mg,mb,a,o,fd,h1,h2,h3,h4,h5,_⟩:=gf;refine ⟨.ref a,⟨⟨mg,mb,h1,h2,.inl h3⟩,fun h hl=>?_⟩,fun h=>by cases h⟩;have:=hl a o h4;obtain ⟨oc,od,dt,sl⟩:=o;dsimp only at h5;subst h5;exact cX h ⟨oc,od,fd,sl,this⟩
theorem G5:∀ (fx:Fx J) (gf:Hr J) (ok:TO J n),pL J (n+1):=by iterate 3
 obtain ⟨fv,c0,_⟩:=Aq gf;obtain ⟨mg,mb,a,o,fd,h1,h2,h3,h4,h5,h6,h7,h8,h9,h10,h11,h12⟩:=gf;refine ⟨.ref a,⟨⟨mg,mb,h1,h2,.inl h3⟩,fun h hl=>?_⟩,fun {sc st t x b g fl st' g' env ow A W0 s0 B W s v} h rv hg r hA=>?_⟩
 ·have:=hl a o h4;obtain ⟨oc,od,dt,sl⟩:=o;dsimp only at h5;subst h5;exact cX h ⟨oc,od,fd,sl,this⟩
 have RN:A.depth<cw:=by have:=hA.2.1;omega
 dsimp only [Rd] at rv;obtain ⟨hx,tv,rfl⟩:=rv;have RH:s.heap.CodeRec fd.code fd.qualname:=QA.at h11 r.ok.QB;refine eV (codeAny_call_generator RN (r.ok.QB a o h4) h5 (by rw [h7];rfl) (by rw [h7];rfl) h6 RH ?_);rw [h12];refine ay ?_;rw [h7,h8,h9,h10];refine fA (scope:=RC.scope) (by decide) (fun y hy=>?_) (fun h' Sf WX=>?_) rfl
 ·simp at hy;subst hy;rfl
 have hL:s.heap.get? s.heap.objs.size=none:=bv _;have nL:=r.ok.QQ hL;have fL:=r.Q2 hL;obtain ⟨L,Y1⟩:∃ L,L=s.heap.objs.size:=⟨_,rfl⟩
 rw [<-Y1] at Sf WX hL nL fL ⊢;have hz:h'.objs.size=L+1:=by rw [WX.1,m8,Y1]
 have kk:∀ b o,s.heap.get? b=some o->h'.get? b=some o:=fun b o e=>WX.extBut b o (fun q=>by rw [q,hL] at e;cases e) (aF _ e);have abG:∃ o,h'.get? L=some o:=by obtain ⟨o,_,_,e,_⟩:=Sf;exact ⟨o,e⟩
 have aay:h'.NoLimit:=by obtain ⟨mc,q1,q2⟩:=fx.SI;exact ⟨mc,q1.ns fun b o e=>kk b o (r.ok.QB b o e),q2⟩
 refine ⟨aay,?_⟩;dsimp only;generalize Tu:({cls:= .type "generator",data:= .fields #[.int s.gens.size 0,.str fd.name (s.toks+1),.str fd.qualname (s.toks+1+1)]}:Obj)=X2;have hgf:X2.isFreed=false:=by rw [<-Tu];rfl
 have Vx:(h'.push X2).get? h'.objs.size=some X2:=ax _ hgf;have kk3:∀ b o,s.heap.get? b=some o->(h'.push X2).get? b=some o:=fun b o e=>aF _ (kk b o e);have hI:s.heap.get? h'.objs.size=none:=by cases q:s.heap.get? h'.objs.size with | none=>rfl | some o=>exact absurd (dK q) (by rw [hz,Y1];exact mC (bV _))
 have nI:=r.ok.QQ hI;have fI:=r.Q2 hI;have hLI:h'.objs.size≠L:=by rw [hz];exact mB _
 have hgk:∀ (i:Nat) (g:di),s.gens[i]? =some g->(s.gens.push (.fresh (.func RC.body (ng RC.scope L bC [] (fd.qualname++bB ".<locals>.") (some a) fd.code none bU))))[i]? =some g:=fun i g e=>by rw [Array.getElem?_push,if_neg (fR (uE e))];exact e
 have YS:ij (s.gens.push (.fresh (.func RC.body (ng RC.scope L bC [] (fd.qualname++bB ".<locals>.") (some a) fd.code none bU)))):=fun y hy=>by
  rcases Array.mem_push.mp hy with q | rfl
  ·exact r.ok.bare y q
  ·rfl
 have tr:=r.tr.Zb (Y:=[]) (tk:=s.toks+[(bB "addr",ix {cps:=x.toArray} tv)].length+1+1) r.RY (by simp) (fun b o _ e=>kk3 b o e) (fun i g e=>hgk i g (r.tr.gens i g e)) YS;have r3:=r.gen (Y:=[]) tr (PM.le.refl _) (fun _ _ e=> .inl e) rfl rfl (by simp) (fun b o _ e=>kk3 b o e) (fun i g e=>hgk i g (r.gens i g e));have UD:(h'.push X2).IsGen h'.objs.size s.gens.size:=⟨X2,_,_,Vx,by rw [<-Tu],by rw [<-Tu],by rw [<-Tu]⟩
 refine wpAny_pyIter_gen UD ?_;refine Jw (Y:=[L]) (L:=L) (gi:=s.gens.size) fx ok h hg r3 hA ⟨UD,.inl ⟨fd.qualname,a,fd.code,⟨x.toArray⟩,tv,_,Array.getElem?_push_size ..,rfl,Sf.push _,rfl,?_⟩⟩ (fun b hb=>?_) (by simpa using hLI) (CO r.gens) (CO r.tr.gens)
 ·show pZ 0 x=gen 0 false x;rw [wf]
 ·simp at hb;rcases hb with rfl | rfl
  ·exact ⟨⟨nI.1,nI.2.1,nI.2.2,_,Vx⟩,fun hm=>fI (aE _ hm),fun hm=>fI (cU _ hm),r.RM hI,r.tr.Qy hI⟩
  ·obtain ⟨o,e⟩:=abG;exact ⟨⟨nL.1,nL.2.1,nL.2.2,_,aF _ e⟩,fun hm=>fL (aE _ hm),fun hm=>fL (cU _ hm),r.RM hL,r.tr.Qy hL⟩
end
structure Mx (J:Cx):Prop where
 fx:Fx J
 kl:Kl J
 tx:Tx J
 gf:Hr J
 tl:xQ J "_law_lexer" "_law_lexer.<locals>.<lambda>" uG
 td:xQ J "_digits2int" "_digits2int.<locals>.inner" ⟨90,4,95,55⟩
 ti:xQ J "_int2digits" "_int2digits.<locals>.inner" ⟨75,4,84,28⟩
theorem K7:∀ {J:Cx} (m:Mx J) (n:Nat) (hn:30<=n) (Qw:Ok J 9),Z7 J n:=by iterate 5
 exact {
  i2d:=fun h=>(by obtain ⟨fv,c,k⟩:=D9 m.fx m.tx Qw m.ti h;exact ⟨fv,c,fun hA=>k (hA.le hn)⟩)
  d2i:=fun h=>(by obtain ⟨fv,c,k⟩:=Ez m.fx m.tx Qw m.td h;exact ⟨fv,c,fun hA=>k (hA.le hn)⟩)
  lexer:=fun h=>(by obtain ⟨fv,c,k⟩:=AB m.fx m.kl m.tx m.tl h;exact ⟨fv,c,fun hA=>k (hA.le (by omega))⟩)
  Wi:=fun h=>(by obtain ⟨fv,c,k⟩:=HK m.fx m.kl h;exact ⟨fv,c,fun hA=>k (hA.le (by omega))⟩)}
theorem O0:∀ {J:Cx} (m:Mx J) (n:Nat),Ok J n/\TO J n/\wh J n/\pL J n:=by iterate 3 exact (K8 m.fx m.kl (K7 m) (fun _ ok=>G5 m.fx m.gf ok) (Aq m.gf) n)
theorem Ib:∀ {J:Cx} {n:Nat} {fn:Fn} {ds:List D} {fl:Fl} {st':St} {g':G} {b:Bool} {A:bf} {env:Env} {W:Wd} {s Ql:ah} (m:Mx J) (h:ceSs P0 n fn.scope ⟨fn.params.zip ds,[],none⟩ fn.body []=some (.ret (.bool b),st',g')) (hg:W.H=[]) (R:Run J W s ⟨W,Ql,[]⟩ fn.scope env ⟨fn.params.zip ds,[],none⟩ [] W Ql) (hA:Qx n A),aD (aC P0 J.w) A (gg fn.body env) (fun f s'=>f= .ret (.bool b)/\∃ W',Qp J [] W s W' s') (fun _ _=>False) Ql:=by iterate 18 refine af ((O0 m n).2.1.ss h hg R hA) (fun f s' z0=>?_) fun _ _ f=>f;obtain ⟨W',ZO,v,hf,rv,t⟩:=z0;dsimp only [Rd] at rv;subst rv;exact ⟨hf,W',t⟩
end MP.Lake
set_option backward.match.sparseCases false
namespace MP.Lake
open PySem
noncomputable abbrev Qr.At (T:Qr) (x:Str) (d:D):Prop:=T.lookup x=some d
noncomputable def fb (p:bY) (f:Str):List Stmt:=match pd p f with
| some fn=>fn.body
| none=>[]
noncomputable def fsc (p:bY) (f:Str):aX:=match pd p f with
| some fn=>fn.scope
| none=> .mk .function [] false false []
noncomputable def OJ:Stmt:= .Return none ⟨0,0,0,0⟩
noncomputable def ex0:Expr:= .Constant .none 0 ⟨0,0,0,0⟩
noncomputable def p7:Stmt->List Stmt
| .If _ b _ _=>b
| .For _ _ b _ _=>b
| .While _ b _ _=>b
| _=>[]
noncomputable def at_ (b:List Stmt) (i:Nat):Stmt:=b.getD i OJ
noncomputable def D3:Stmt->Expr
| .For t _ _ _ _=>t
| _=>ex0
noncomputable def yo:Stmt->Expr
| .Assign _ e _=>e
| .Return (some e) _=>e
| .If t _ _ _=>t
| .For _ it _ _ _=>it
| .While t _ _ _=>t
| .Expr e _=>e
| .AugAssign _ _ e _=>e
| _=>ex0
noncomputable def OH:Expr->List Expr
| .Call f as _ _=>f::as
| .BinOp l _ r _=>[l,r]
| .UnaryOp _ x _=>[x]
| .Compare l _ rs _=>l::rs
| .BoolOp _ es _=>es
| .Subscript v i _=>[v,i]
| .List es _=>es
| .Tuple es _ _=>es
| .IfExp t a b _=>[t,a,b]
| .Attribute v _ _=>[v]
| _=>[]
noncomputable def Ni (e:Expr):List Nat->Expr
| []=>e
| i::r=>Ni ((OH e).getD i ex0) r
noncomputable def Pb:Expr->Bool
| .Slice _ _ _ _=>true
| _=>false
noncomputable def turnL (p:bY) (n:Nat) (sc:aX) (st:St) (t elt:Expr) (ifs:List Expr) (Qm:aX) (d:D) (acc:List D) (g:G):Option (List D×G×Option D):=
 (bn t d []).bind fun ρ=>(ceIfs p n Qm ((st.comp sc Qm).withRho ρ) ifs g).bind fun b=>
  if b.1 then (ceE p n Qm ((st.comp sc Qm).withRho ρ) elt b.2).bind fun x=>some (acc++[x.1],x.2,none) else some (acc,b.2,none)
noncomputable def turnD (p:bY) (n:Nat) (sc:aX) (st:St) (t k v:Expr) (ifs:List Expr) (Qm:aX) (d:D) (acc:List (Int×Int)) (g:G):Option (List (Int×Int)×G×Option D):=
 (bn t d []).bind fun ρ=>(ceIfs p n Qm ((st.comp sc Qm).withRho ρ) ifs g).bind fun b=>
  if b.1 then (ceE p n Qm ((st.comp sc Qm).withRho ρ) k b.2).bind fun x=>(ceE p n Qm ((st.comp sc Qm).withRho ρ) v x.2).bind fun y=>(oN x.1).bind fun x'=>(oN y.1).bind fun y'=>some (put x' y' acc,y.2,none) else some (acc,b.2,none)
noncomputable def turnF (p:bY) (n:Nat) (sc:aX) (t:Expr) (body:List Stmt) (d:D) (st:St) (g:G):Option (St×G×Option D):=
 (re (p9 sc st t)).bind fun _=>(bn t d st.ρ).bind fun ρ=>(ceSs p n sc (st.withRho ρ) body g).bind fun x=>some (x.2.1,x.2.2,rS x.1)
theorem f8:∀ {α β:Type} {o:Option α} {a:α} {f:α->Option β} {r:Option β} (h:o=some a) (k:f a=r),o.bind f=r:=by iterate 8 rw [h];exact k
theorem oR:∀ {b:Bool} (h:b=true),re b=some ():=by iterate 2 rw [h];rfl
theorem vG:∀ {α:Type} {c:Bool} {A B r:α} (h:(bif c then A else B)=r),(if c=true then A else B)=r:=by iterate 6 cases c<;>exact h
theorem bind_none:∀ {α β:Type} {o:Option α} {q:Option β} (h:q=none),(o.bind fun _=>q)=none:=by iterate 5
 cases o
 ·rfl
 ·exact h
section
variable {p:bY} {n:Nat} {sc Qm:aX} {st QZ Se:St} {e l r t i it elt:Expr} {es as ifs:List Expr} {op:iE} {pos ap cp xp:Pos} {g g1 g2 g3:G} {a b d k:D} {ds acc:List D} {c c2:Bool} {x f m:Str} {s:Stmt} {ss body o:List Stmt} {fl:Fl} {lv:Option D}
theorem e_name:∀ (hk:mt x=true) (h:nameD p sc st x=some d),ceE p (n+1) sc st (.Name x pos) g=some (d,g):=by iterate 2 exact (f8 (oR hk) (f8 h rfl))
theorem e_bin:∀ (h1:ceE p n sc st l g=some (a,g1)) (h2:ceE p n sc st r g1=some (b,g2)) (h3:binop op a b=some d),ceE p (n+1) sc st (.BinOp l op r pos) g=some (d,g2):=by iterate 3 exact (f8 h1 (f8 h2 (f8 h3 rfl)))
theorem e_if:∀ (h1:ceT p n sc st t g=some (c,g1)) (h2:(bif c then ceE p n sc st l g1 else ceE p n sc st r g1)=some (d,g2)),ceE p (n+1) sc st (.IfExp t l r pos) g=some (d,g2):=by iterate 2 exact (f8 h1 (vG h2))
theorem e_and:∀ (h1:ceAnd p n sc st es g=some (d,g2)),ceE p (n+1) sc st (.BoolOp .And es pos) g=some (d,g2):=by iterate 1 exact (h1)
theorem e_cmp:∀ {o:CmpOp} (h1:ceE p n sc st l g=some (a,g1)) (h2:ceE p n sc st r g1=some (b,g2)) (h3:cmp p o a b=some c),ceE p (n+1) sc st (.Compare l [o] [r] pos) g=some (.bool c,g2):=by iterate 4 exact (f8 h1 (f8 h2 (f8 h3 rfl)))
theorem e_tup:∀ {q:Nat} (h1:ceEs p n sc st es g=some (ds,g1)) (h2:ds.length<=lim),ceE p (n+1) sc st (.Tuple es q pos) g=some (.tup ds,g1):=by iterate 3 exact (f8 h1 (f8 (oR (decide_eq_true h2)) rfl))
theorem e_lst:∀ (h1:ceEs p n sc st es g=some (ds,g1)) (h2:ds.length<=lim),ceE p (n+1) sc st (.List es pos) g=some (.lst ds,g1):=by iterate 2 exact (f8 h1 (f8 (if_pos h2) rfl))
theorem e_slice:∀ {lo hi:Option Expr} {lo' Vm:Option Int} {sp:Pos} (h1:ceE p n sc st l g=some (a,g1)) (h2:ceOpt p n sc st lo g1=some (lo',g2)) (h3:ceOpt p n sc st hi g2=some (Vm,g3)) (h4:xz g3 a lo' Vm=some d),ceE p (n+1) sc st (.Subscript l (.Slice lo hi none sp) pos) g=some (d,g3):=by iterate 9 exact (f8 h1 (f8 h2 (f8 h3 (f8 h4 rfl))))
theorem e_rev:∀ {q:Nat} {p1 p2 sp:Pos} (h1:ceE p n sc st l g=some (a,g1)) (h2:I8 a=some d),ceE p (n+1) sc st (.Subscript l (.Slice none none (some (.UnaryOp .USub (.Constant (.int 1) q p1) p2)) sp) pos) g=some (d,g1):=by iterate 6 exact (f8 h1 (f8 h2 rfl))
theorem e_sub:∀ (hi:Pb i=false) (h1:ceE p n sc st l g=some (a,g1)) (h2:ceE p n sc st i g1=some (k,g2)) (h3:subD p a k=some d),ceE p (n+1) sc st (.Subscript l i pos) g=some (d,g2):=by iterate 4 cases i with | Slice=>cases hi | _=>exact f8 h1 (f8 h2 (f8 h3 rfl))
theorem e_comp:∀ (hc:(yE sc Qm&&tM Qm t)=true) (h1:ceE p n sc st it g=some (d,g1)) (h2:itemsOf d=some ds) (h3:iterLoop (turnL p n sc st t elt ifs Qm) ds [] g1=some (acc,g2,lv)) (h4:acc.length<=lim),ceE p (n+1) sc st (.ListComp elt [⟨t,it,ifs,0⟩] Qm pos) g=some (.lst acc,g2):=by iterate 5 exact (f8 (oR hc) (f8 h1 (f8 h2 (f8 (show iterLoop (O4 (fs p n) sc st t elt ifs Qm) ds [] g1=_ from h3) (f8 (if_pos h4) rfl)))))
theorem e_dcomp:∀ {kv:List (Int×Int)} (hc:(yE sc Qm&&tM Qm t)=true) (h1:ceE p n sc st it g=some (d,g1)) (h2:itemsOf d=some ds) (h3:iterLoop (turnD p n sc st t l r ifs Qm) ds [] g1=some (kv,g2,lv)) (h4:kv.length<=lim),ceE p (n+1) sc st (.DictComp l r [⟨t,it,ifs,0⟩] Qm pos) g=some (.QH kv,g2):=by iterate 6 exact (f8 (oR hc) (f8 h1 (f8 h2 (f8 (show iterLoop (PG (fs p n) sc st t l r ifs Qm) ds [] g1=_ from h3) (f8 (oR (decide_eq_true h4)) rfl)))))
theorem e_call:∀ {fp:Pos} (hc:(qb sc f&&mt f)=true) (h1:ceEs p n sc st as g=some (ds,g1)) (h2:ceCall p n f ds g1=some (d,g2)),ceE p (n+1) sc st (.Call (.Name f fp) as [] pos) g=some (d,g2):=by iterate 4 exact (f8 (oR hc) (f8 h1 h2))
theorem e_cmeth:∀ {str:Str} {q:Nat} (hc:(ap.endLine==cp.line&&as.length<30&&str.length<=lim)=true) (h1:ceEs p n sc st as g=some (ds,g1)) (h2:methD m (.str str.cps.toList) ds g1=some (d,g2)),ceE p (n+1) sc st (.Call (.Attribute (.Constant (.str str) q xp) m ap) as [] cp) g=some (d,g2):=by iterate 5 exact (f8 (oR hc) (f8 h1 h2))
theorem e_meth:∀ (ho:tX st x=none) (hc:(ap.endLine==cp.line&&as.length<30&&decide (J8 m<=n))=true) (h1:ceE p n sc st (.Name x xp) g=some (a,g1)) (h2:ceEs p n sc st as g1=some (ds,g2)) (hk:(qo g1 a==qo g2 a)=true) (h3:methD m a ds g2=some (d,g3)),ceE p (n+1) sc st (.Call (.Attribute (.Name x xp) m ap) as [] cp) g=some (d,g3):=by iterate 6 show (match tX st x with | some QC=>_ | none=>_)=_;rw [ho];exact f8 (oR hc) (f8 h1 (f8 h2 (f8 (oR hk) h3)))
theorem e_name_none:∀ (h:nameD p sc st x=none),ceE p (n+1) sc st (.Name x pos) g=none:=by iterate 1 exact (bind_none (show (nameD p sc st x).bind _=none by rw [h];rfl))
theorem e_call_none:∀ {fp:Pos} (h1:ceEs p n sc st as g=none),ceE p (n+1) sc st (.Call (.Name f fp) as [] pos) g=none:=by iterate 2 exact (bind_none (show (ceEs p n sc st as g).bind _=none by rw [h1];rfl))
theorem es_none:∀ (h1:ceE p n sc st e g=none),ceEs p (n+1) sc st (e::es) g=none:=by iterate 1 show (ceE p n sc st e g).bind _=none;rw [h1];rfl
theorem condT:∀ {α:Type} {c:Bool} {A B r:α} (h:c=true) (h2:A=r),cond c A B=r:=by iterate 7 rw [h];exact h2
theorem condF:∀ {α:Type} {c:Bool} {A B r:α} (h:c=false) (h2:B=r),cond c A B=r:=by iterate 7 rw [h];exact h2
theorem t_not:∀ (h1:ceT p n sc st e g=some (c,g1)),ceT p (n+1) sc st (.UnaryOp .Not e pos) g=some (!c,g1):=by iterate 1 exact (f8 h1 rfl)
theorem t_or:∀ (h1:ceOr p n sc st es g=some (c,g1)),ceT p (n+1) sc st (.BoolOp .Or es pos) g=some (c,g1):=by iterate 1 exact (h1)
theorem t_and:∀ (h1:ceAndT p n sc st es g=some (c,g1)),ceT p (n+1) sc st (.BoolOp .And es pos) g=some (c,g1):=by iterate 1 exact (h1)
theorem t_cmp:∀ {o:CmpOp} (h1:ceE p n sc st l g=some (a,g1)) (h2:ceE p n sc st r g1=some (b,g2)) (h3:cmp p o a b=some c),ceT p (n+1) sc st (.Compare l [o] [r] pos) g=some (c,g2):=by iterate 4 exact (f8 h1 (f8 h2 (f8 h3 rfl)))
theorem t_call:∀ {fp:Pos} (h1:ceE p n sc st (.Call (.Name f fp) as [] pos) g=some (.bool c,g1)),ceT p (n+1) sc st (.Call (.Name f fp) as [] pos) g=some (c,g1):=by iterate 2 exact (f8 h1 rfl)
theorem t_name:∀ (h1:ceE p n sc st (.Name x pos) g=some (.bool c,g1)),ceT p (n+1) sc st (.Name x pos) g=some (c,g1):=by iterate 1 exact (f8 h1 rfl)
theorem or_nil:ceOr p (n+1) sc st [] g=some (false,g):=by iterate 0 exact (rfl)
theorem or_step:∀ (h1:ceT p n sc st e g=some (c,g1)) (h2:(bif c then some (true,g1) else ceOr p n sc st es g1)=some (c2,g2)),ceOr p (n+1) sc st (e::es) g=some (c2,g2):=by iterate 2 exact (f8 h1 (vG h2))
theorem andT_nil:ceAndT p (n+1) sc st [] g=some (true,g):=by iterate 0 exact (rfl)
theorem andT_step:∀ (h1:ceT p n sc st e g=some (c,g1)) (h2:(bif c then ceAndT p n sc st es g1 else some (false,g1))=some (c2,g2)),ceAndT p (n+1) sc st (e::es) g=some (c2,g2):=by iterate 2 exact (f8 h1 (vG h2))
theorem and_one:∀ (h1:ceE p n sc st e g=some (d,g1)),ceAnd p (n+1) sc st [e] g=some (d,g1):=by iterate 1 exact (h1)
theorem and_step:∀ {e2:Expr} (h1:ceE p n sc st e g=some (.bool c,g1)) (h2:(bif c then ceAnd p n sc st (e2::es) g1 else some (.bool false,g1))=some (d,g2)),ceAnd p (n+1) sc st (e::e2::es) g=some (d,g2):=by iterate 3 exact (f8 h1 (f8 rfl (vG h2)))
theorem es_nil:ceEs p (n+1) sc st [] g=some ([],g):=by iterate 0 exact (rfl)
theorem es_cons:∀ (h1:ceE p n sc st e g=some (d,g1)) (h2:ceEs p n sc st es g1=some (ds,g2)),ceEs p (n+1) sc st (e::es) g=some (d::ds,g2):=by iterate 2 exact (f8 h1 (f8 h2 rfl))
theorem ifs_nil:ceIfs p (n+1) sc st [] g=some (true,g):=by iterate 0 exact (rfl)
theorem ifs_one:∀ (h1:ceT p n sc st e g=some (c,g1)),ceIfs p (n+1) sc st [e] g=some (c,g1):=by iterate 1 exact (f8 rfl h1)
theorem opt_none:ceOpt p (n+1) sc st none g=some (none,g):=by iterate 0 exact (rfl)
theorem opt_some:∀ {i:Int} (h1:ceE p n sc st e g=some (.int i,g1)),ceOpt p (n+1) sc st (some e) g=some (some i,g1):=by iterate 2 exact (f8 h1 (f8 rfl rfl))
theorem ss_nil:ceSs p (n+1) sc st [] g=some (.next,st,g):=by iterate 0 exact (rfl)
noncomputable def contS (p:bY) (n:Nat) (sc:aX) (ss:List Stmt) (fl:Fl) (st:St) (g:G):Option (Fl×St×G):=match fl with
| .next=>ceSs p n sc st ss g
| .ret d=>some (.ret d,st,g)
theorem ss_step:∀ {Z1:Fl} (h1:ceS p n sc st s g=some (fl,QZ,g1)) (h2:contS p n sc ss fl QZ g1=some (Z1,Se,g2)),ceSs p (n+1) sc st (s::ss) g=some (Z1,Se,g2):=by iterate 3 exact (f8 h1 (by cases fl<;>exact h2))
theorem s_ret:∀ (h1:ceE p n sc st.freeze e g=some (d,g1)),ceS p (n+1) sc st (.Return (some e) pos) g=some (.ret d,st.freeze,g1):=by iterate 1 exact (f8 h1 rfl)
theorem s_if:∀ (h1:ceT p n sc st t g=some (c,g1)) (h2:(bif c then ceSs p n sc st ss g1 else ceSs p n sc st o g1)=some (fl,QZ,g2)),ceS p (n+1) sc st (.If t ss o pos) g=some (fl,QZ,g2):=by iterate 2 exact (f8 h1 (vG h2))
theorem E8:∀ (h3:iterLoop (turnF p n sc t body) ds st g=some (QZ,g1,lv)),wH p (n+1) sc st t ds body g=some (E6 lv,QZ,g1):=by iterate 1 exact (f8 (show iterLoop (ME (fs p n) sc t body) ds st g=_ from h3) rfl)
theorem s_for:∀ (hg:qW sc "_iter_escaped_chars" it=none) (hr:qW sc "reversed" it=none) (h1:ceE p (n+1) sc st it g=some (d,g1)) (h2:itemsOf d=some ds) (h3:iterLoop (turnF p n sc t body) ds st g1=some (QZ,g2,lv)),ceS p (n+2) sc st (.For t it body [] pos) g=some (E6 lv,QZ,g2):=by iterate 5 show (match qW sc "_iter_escaped_chars" it with | some a=>_ | none=>match qW sc "reversed" it with | some a=>_ | none=>_)=_;rw [hg,hr];exact f8 h1 (f8 h2 (E8 h3))
theorem s_forG:∀ {s':List Nat} (hg:qW sc "_iter_escaped_chars" it=some e) (h1:ceE p (n+1) sc st e g=some (.str s',g1)) (h3:iterLoop (turnF p n sc t body) (units s') st g1=some (QZ,g2,lv)),ceS p (n+2) sc st (.For t it body [] pos) g=some (E6 lv,QZ,g2):=by iterate 4 show (match qW sc "_iter_escaped_chars" it with | some a=>_ | none=>_)=_;rw [hg];exact f8 h1 (f8 rfl (E8 h3))
theorem s_forR:∀ {xs:List D} (hg:qW sc "_iter_escaped_chars" it=none) (hr:qW sc "reversed" it=some e) (h1:ceE p (n+1) sc st e g=some (.lst xs,g1)) (h3:iterLoop (turnF p n sc t body) xs.reverse st g1=some (QZ,g2,lv)),ceS p (n+2) sc st (.For t it body [] pos) g=some (E6 lv,QZ,g2):=by iterate 5 show (match qW sc "_iter_escaped_chars" it with | some a=>_ | none=>match qW sc "reversed" it with | some a=>_ | none=>_)=_;rw [hg,hr];exact f8 h1 (f8 rfl (E8 h3))
theorem s_asg:∀ (hn:tK e=none) (hd:xA e=false) (hc:(oS st x&&pP sc x)=true) (h1:ceE p n sc st e g=some (d,g1)),ceS p (n+1) sc st (.Assign [.Name x xp] e pos) g=some (.next,st.withRho ((x,d)::st.ρ),g1):=by iterate 4 show sQ (fs p n) sc st x e g=_;unfold sQ;rw [hn,hd,show ((re (oS st x&&pP sc x)).bind fun _=>(fs p n).e sc st e g)=some (d,g1) from f8 (oR hc) h1];rfl
theorem s_tup:∀ {ts:List Expr} {q:Nat} {tp:Pos} {ρ:Qr} (hr:qk p sc st e=none) (hc:(p9 sc st (.Tuple ts q tp)&&uT e)=true) (h1:ceE p n sc st e g=some (d,g1)) (h2:bn (.Tuple ts q tp) d st.ρ=some ρ),ceS p (n+1) sc st (.Assign [.Tuple ts q tp] e pos) g=some (.next,st.withRho ρ,g1):=by iterate 8 show (match qk p sc st e with | some q=>_ | none=>_)=_;rw [hr];exact f8 (oR hc) (f8 h1 (f8 h2 rfl))
theorem s_aug:∀ (hc:(oS st x&&pP sc x)=true) (h1:ceE p n sc st (.Name x xp) g=some (a,g1)) (h2:ceE p n sc st e g1=some (b,g2)) (h3:inop op a b=some d),ceS p (n+1) sc st (.AugAssign (.Name x xp) op e pos) g=some (.next,st.withRho ((x,d)::st.ρ),g2):=by iterate 4 exact (f8 (oR hc) (f8 h1 (f8 h2 (f8 h3 rfl))))
theorem turn_ok:∀ {ρ:Qr} (h1:bn t d []=some ρ) (h2:ceIfs p n Qm ((st.comp sc Qm).withRho ρ) ifs g=some (c,g1)) (hc:c=true) (h3:ceE p n Qm ((st.comp sc Qm).withRho ρ) elt g1=some (a,g2)),turnL p n sc st t elt ifs Qm d acc g=some (acc++[a],g2,none):=by iterate 5 subst hc;simp only [turnL,h1,h2,h3,bz,if_true]
theorem turn_no:∀ {ρ:Qr} (h1:bn t d []=some ρ) (h2:ceIfs p n Qm ((st.comp sc Qm).withRho ρ) ifs g=some (c,g1)) (hc:c=false),turnL p n sc st t elt ifs Qm d acc g=some (acc,g1,none):=by iterate 4 subst hc;simp [turnL,h1,h2]
theorem turnD_ok:∀ {ρ:Qr} {kv:List (Int×Int)} {i1 i2:Int} (h1:bn t d []=some ρ) (h2:ceIfs p n Qm ((st.comp sc Qm).withRho ρ) ifs g=some (c,g1)) (hc:c=true) (h3:ceE p n Qm ((st.comp sc Qm).withRho ρ) l g1=some (.int i1,g2)) (h4:ceE p n Qm ((st.comp sc Qm).withRho ρ) r g2=some (.int i2,g3)),turnD p n sc st t l r ifs Qm d kv g=some (put i1 i2 kv,g3,none):=by iterate 9 subst hc;simp only [turnD,h1,h2,h3,h4,show ∀ i,oN (.int i)=some i from fun _=>rfl,bz,if_true]
theorem turnD_no:∀ {ρ:Qr} {kv:List (Int×Int)} (h1:bn t d []=some ρ) (h2:ceIfs p n Qm ((st.comp sc Qm).withRho ρ) ifs g=some (c,g1)) (hc:c=false),turnD p n sc st t l r ifs Qm d kv g=some (kv,g1,none):=by iterate 5 subst hc;simp [turnD,h1,h2]
theorem turnF_ok:∀ {ρ:Qr} (hf:p9 sc st t=true) (h1:bn t d st.ρ=some ρ) (h2:ceSs p n sc (st.withRho ρ) body g=some (.next,QZ,g1)),turnF p n sc t body d st g=some (QZ,g1,none):=by iterate 4 simp [turnF,hf,re,h1,h2,rS]
theorem turnF_ret:∀ {ρ:Qr} (hf:p9 sc st t=true) (h1:bn t d st.ρ=some ρ) (h2:ceSs p n sc (st.withRho ρ) body g=some (.ret a,QZ,g1)),turnF p n sc t body d st g=some (QZ,g1,some a):=by iterate 4 simp [turnF,hf,re,h1,h2,rS]
theorem s_asgf:∀ (hn:tK e=none) (hd:xA e=false) (hc:((re (oS st x&&pP sc x)).bind fun _=>ceE p n sc st e g)=none) (hx:pP sc x=true) (h1:ceE p n sc st.freeze e g=some (d,g1)),ceS p (n+1) sc st (.Assign [.Name x xp] e pos) g=some (.next,st.freeze.withRho ((x,d)::st.freeze.ρ),g1):=by iterate 5 show sQ (fs p n) sc st x e g=_;unfold sQ;rw [hn,hd,show ((re (oS st x&&pP sc x)).bind fun _=>(fs p n).e sc st e g)=none from hc];exact f8 (oR hx) (f8 h1 rfl)
theorem s_own:∀ {xs ys:List D} (ho:tQ st x=some xs) (hc:(ap.endLine==cp.line&&as.length<30&&mt x)=true) (h1:ceEs p n sc st as g=some (ds,g1)) (h2:ownMeth m xs ds=some ys),ceS p (n+1) sc st (.Expr (.Call (.Attribute (.Name x xp) m ap) as [] cp) pos) g=some (.next,qt st x (.lst ys),g1):=by iterate 6 show qj (fs p n) sc st n x xp m ap as cp g=_;unfold qj;rw [ho];exact f8 (oR hc) (f8 h1 (f8 h2 rfl))
theorem s_push:∀ {j:Nat} (ho:tQ st x=none) (hc:(ap.endLine==cp.line&&as.length<30&&decide (J8 m<=n))=true) (h1:ceE p n sc st (.Name x xp) g=some (.loc j,g1)) (hr:(m==("append" :Str))=false) (hm:(m==("push_token" :Str))=true) (h2:ceEs p n sc st as g1=some (ds,g2)) (hk:(qo g1 (.loc j)==qo g2 (.loc j))=true) (h3:methD m (.loc j) ds g2=some (d,g3)),ceS p (n+1) sc st (.Expr (.Call (.Attribute (.Name x xp) m ap) as [] cp) pos) g=some (.next,st,g3):=by iterate 9 show qj (fs p n) sc st n x xp m ap as cp g=_;unfold qj;rw [ho,hr];exact f8 (oR hc) (f8 h1 (f8 rfl (f8 (oR hm) (f8 h2 (f8 (oR hk) (f8 h3 rfl))))))
theorem s_newrow:∀ {j:Nat} {ob:MO} {a1:Expr} {u:Unit} {rows:List (List D)} (ho:tQ st x=none) (hc:(ap.endLine==cp.line&&as.length<30&&decide (J8 m<=n))=true) (h1:ceE p n sc st (.Name x xp) g=some (.loc j,g1)) (hr:(m==("append" :Str))=true) (q1:uA as=some a1) (q2:tK a1=some es) (q3:sy es=some u) (h2:g1[j]? =some ob) (h3:sN ob=some rows) (h4:rows.length<lim),ceS p (n+1) sc st (.Expr (.Call (.Attribute (.Name x xp) m ap) as [] cp) pos) g=some (.next,st,g1.set j (.Qz (rows++[[]]))):=by iterate 15 show qj (fs p n) sc st n x xp m ap as cp g=_;unfold qj;rw [ho,hr];exact f8 (oR hc) (f8 h1 (f8 rfl (f8 q1 (f8 q2 (f8 q3 (f8 h2 (f8 h3 (f8 (oR (decide_eq_true h4)) rfl))))))))
theorem s_setitem:∀ {QC:List (Int×Int)} {i1 i2:Int} {sp:Pos} (ho:tX st x=some QC) (hc:(mt x&&zp e)=true) (h1:ceE p n sc st e g=some (.int i2,g1)) (h2:ceE p n sc st i g1=some (.int i1,g2)) (h3:QC.length<lim),ceS p (n+1) sc st (.Assign [.Subscript (.Name x xp) i sp] e pos) g=some (.next,qt st x (.QH (put i1 i2 QC)),g2):=by iterate 9 exact (f8 ho (f8 (oR hc) (f8 h1 (f8 h2 (f8 rfl (f8 rfl (f8 (oR (decide_eq_true h3)) rfl)))))))
theorem s_augitem:∀ {xs:List D} {q:Nat} {sp:Pos} (ho:tQ st x=some xs) (hx:mt x=true) (h1:ceE p n sc st i g=some (k,g1)) (hk:qx k=some q) (ha:xs[q]? =some a) (h2:ceE p n sc st e g1=some (b,g2)) (h3:inop op a b=some d),ceS p (n+1) sc st (.AugAssign (.Subscript (.Name x xp) i sp) op e pos) g=some (.next,qt st x (.lst (xs.set q d)),g2):=by iterate 10 exact (f8 ho (f8 (oR hx) (f8 h1 (f8 hk (f8 ha (f8 h2 (f8 h3 rfl)))))))
theorem s_row:∀ {ts:List Expr} {q:Nat} {tp:Pos} {j kk:Nat} {ob:MO} {rows:List (List D)} {ρ:Qr} (hr:qk p sc st e=some (j,i)) (hc:p9 sc st (.Tuple ts q tp)=true) (h1:ceE p n sc st i g=some (k,g1)) (hk:qx k=some kk) (h2:g1[j]? =some ob) (h3:sN ob=some rows) (h4:rows[kk]? =some ds) (h5:yP ts ds st.ρ=some ρ),ceS p (n+1) sc st (.Assign [.Tuple ts q tp] e pos) g=some (.next,st.withRho ρ,g1):=by iterate 16 show (match qk p sc st e with | some q=>_ | none=>_)=_;rw [hr];exact f8 (oR hc) (f8 h1 (f8 hk (f8 h2 (f8 h3 (f8 h4 (f8 h5 rfl))))))
theorem s_while:∀ (h:vV (fun st g=>ceT p n sc st t g) (fun st g=>ceSs p n sc st body g) 200 st g=some (fl,QZ,g1)),ceS p (n+2) sc st (.While t body [] pos) g=some (fl,QZ,g1):=by iterate 1 exact (h)
theorem e_attr:∀ {j:Nat} {ob:MO} (h1:ceE p n sc st (.Name x xp) g=some (.loc j,g1)) (h2:g1[j]? =some ob) (h3:yg m ob=some d),ceE p (n+1) sc st (.Attribute (.Name x xp) m pos) g=some (d,g1):=by iterate 5 exact (f8 h1 (f8 rfl (f8 h2 (f8 h3 rfl))))
theorem JQ:∀ {fn:Fn} (hs:special f=none) (hf:pd p f=some fn) (hc:(fn.params.length==ds.length&&!fn.scope.isGenerator)=true) (h1:ceSs p n fn.scope ⟨fn.params.zip ds,[],none⟩ fn.body g=some (.ret d,QZ,g1)),ceCall p (n+1) f ds g=some (d,g1):=by iterate 5 show rF p (fs p n) n f ds g=_;unfold rF;rw [hs];exact f8 hf (f8 (oR hc) (f8 h1 (f8 rfl rfl)))
end
theorem DK:∀ {sc:aX} {st:St} {x:Str} {d:D} (h2:varD sc st x=some d),∀ {ns:List (Str×eN)},ns.lookup x=some .free->(ns.filterMap fun q=>if q.2== .free then (varD sc st q.1).map (q.1,·) else none).lookup x=some d:=by iterate 5
 intro ns;induction ns with
 | nil=>intro h;simp at h
 | cons RA ns Qo=>
  obtain ⟨y,k⟩:=RA;intro h;rw [aY] at h;rw [fq];cases e:x==y with
  | true=>rw [e] at h;cases h;have:=eq_of_beq e;subst this;simp [h2]
  | false=>
   rw [e] at h;have ih:=Qo h;dsimp only;cases hk:(k==cb) with
   | false=>simpa [hk] using ih
   | true=>cases hv:varD sc st y with | none=>simpa [hk,hv] using ih | some v=>simp only [hk,if_true,hv,cY];rw [aY,e];exact ih
theorem comp_free:∀ {p:bY} {sc Qm:aX} {st:St} {ρ:Qr} {x:Str} {d:D} (h1:Qm.names.lookup x=some .free) (h2:varD sc st x=some d),nameD p Qm ((st.comp sc Qm).withRho ρ) x=some d:=by iterate 9 unfold nameD;rw [h1];exact DK h2 h1
theorem ol:∀ {σ:Type} {step:D->σ->G->Option (σ×G×Option D)} {d:D} {ds:List D} {a a':σ} {g g':G} (h:step d a g=some (a',g',none)),iterLoop step (d::ds) a g=iterLoop step ds a' g':=by iterate 9 exact (f8 h rfl)
theorem EG:∀ {σ:Type} {step:D->σ->G->Option (σ×G×Option D)} {s:σ} {g:G},∀ {ds:List D},(∀ d∈ds,step d s g=some (s,g,none))->iterLoop step ds s g=some (s,g,none):=by iterate 4 intro ds;induction ds with | nil=>intro _;exact rfl | cons d ds Qo=>intro h;exact f8 (h d (by simp)) (Qo fun x hx=>h x (by simp [hx]))
theorem loop_nil:∀ {σ:Type} {step:D->σ->G->Option (σ×G×Option D)} {s:σ} {g:G},iterLoop step [] s g=some (s,g,none):=by iterate 4 exact (rfl)
noncomputable def contL {σ:Type} (step:D->σ->G->Option (σ×G×Option D)) (ds:List D) (s:σ) (g:G):Option D->Option (σ×G×Option D)
| none=>iterLoop step ds s g
| some d=>some (s,g,some d)
theorem loop_cons:∀ {σ:Type} {step:D->σ->G->Option (σ×G×Option D)} {d:D} {ds:List D} {s s1:σ} {g g1:G} {o:Option D} {r:Option (σ×G×Option D)} (h1:step d s g=some (s1,g1,o)) (h2:contL step ds s1 g1 o=r),iterLoop step (d::ds) s g=r:=by iterate 12 refine f8 h1 ?_;cases o<;>exact h2
theorem qF:∀ {α:Type} {step:D->List D->G->Option (List D×G×Option D)} {g:G} {emb F:α->D},∀ {xs:List α} {acc:List D},(∀ x∈xs,∀ acc,step (emb x) acc g=some (acc++[F x],g,none))->iterLoop step (xs.map emb) acc g=some (acc++xs.map F,g,none):=by iterate 5 intro xs;induction xs with | nil=>intro acc _;show some (acc,g,none)=some (acc++[],g,none);rw [aS] | cons x xs Qo=>intro acc h;refine f8 (h x (by simp) acc) ((Qo fun x hx=>h x (by simp [hx])).trans ?_);simp
namespace Wk
open Lean Meta Elab Tactic Mt
abbrev X:=Lean.Expr
abbrev R:=Option (List MVarId)
variable (S:X->X)
def kw (e:X):MetaM X:=do ofExceptKernelException (Kernel.whnf (<-getEnv) (<-getLCtx) (S (<-instantiateMVars e)))
def Pg (a b:X):MetaM Bool:=do
 match Kernel.isDefEq (<-getEnv) (<-getLCtx) (S a) (S b) with
| .ok r=>return r
| .error _=>return false
def pj:Nat->X->X
| 0,e=>e
| k+1,e=>
  let part (i:Nat) (p:X):X:=
   let q:=pj k p
   if hd q=="Prod.mk" &&q.getAppNumArgs==4 then pj k (q.getArg! (2+i)) else e
  match e with
  | .proj _ i p=>part i p
  | _=>if e.getAppNumArgs==3 then (if hd e=="Prod.snd" then part 1 e.appArg! else if hd e=="Prod.fst" then part 0 e.appArg! else e) else e
def GF (f:X->MetaM X):Nat->List X->MetaM (List X)
| _,[]=>pure []
| i+1,a::r=>return a::(<-GF f i r)
| 0,a::r=>return (<-f a)::(<-GF f 0 r)
def NR (m:Bool) (h:String):Option Nat:=
 let p:=(h.splitOn ".").head!
 if vQ h "List.cons Option.some" then some 1
 else if vQ h "List.nil Option.none" then some 99
 else if m then (if vQ p "Expr Stmt Comprehension" then some 0 else none)
 else if h=="Prod.mk" then some 2
 else if vQ h "St.mk D.lst D.tup OW.lst D.bool" then some 0
 else if vQ p "D OW Bool Fl" then some 99 else none
def Pp (m:Bool):Nat->X->MetaM X
| 0,e=>pure e
| k+1,e=>do
  let t <-kw S e
  match NR m (hd t) with
  | some i=>return mkAppN t.getAppFn (<-GF (Pp m k) i t.getAppArgs.toList).toArray
  | none=>return if m then e else pj 100 e
def Pz (a b:X):Bool:=vQ (hd a++"|" ++hd b) "Option.none|Option.some Option.some|Option.none Bool.true|Bool.false Bool.false|Bool.true"
def put (g:MVarId) (p pf:X):MetaM (Option R):=do
 g.assign (mkApp2 (.const `id [.zero]) p pf)
 return some (some [])
def zt (g:MVarId) (lhs rhs:X):MetaM (Option R):=do
 let v <-kw S lhs
 if !vQ (hd v) "Option.some Bool.true Bool.false Option.none List.cons List.nil" then return none
 if Pz v (<-instantiateMVars rhs) then return some none
 if <-isDefEq rhs (<-Pp S false 400 v) then put g (<-mkEq lhs rhs) (<-mkEqRefl lhs) else return none
def TX (e:X):MetaM String:=do
 let a <-kw S e
 let bo (b:X) (o:String):String:=if vQ (hd b) "Bool.true Bool.false Option.none" then hd b else o
 if hd a=="Option.some" then return "S" ++bo (<-kw S a.appArg!) "" else return bo a "?"
def Oe (a b:X):MetaM Bool:=do
 let x <-TX S a
 let y <-TX S b
 return if x=="?" ||y=="?" then false else if x=="S" then y=="Option.none" else if y=="S" then x=="Option.none" else x !=y
def Pk (f:X) (k:Nat):MetaM X:=do
 match f.nat? with
| some n=>if k<=n then return mkNatLit (n-k) else throwError "f"
| none=>
  let n:=f.appArg!.nat?.getD 0
  if hd f !="HAdd.hAdd" ||n<k then throwError "f"
  let a:=f.appFn!.appArg!
  if k==n then return a else mkAdd a (mkNatLit (n-k))
def tab:String:="none.Name e_name_none/none.Call e_call_none/none.cons es_none/ceE.Name e_name/ceE.BinOp e_bin/ceE.IfExp e_if/ceE.BoolOp e_and/ceE.Compare e_cmp/ceE.Tuple e_tup/ceE.List e_lst/ceE.Subscript e_rev e_slice e_sub/ceE.ListComp e_comp/ceE.DictComp e_dcomp/ceE.Call e_call e_cmeth e_meth/ceE.Attribute e_attr/ceT.UnaryOp t_not/ceT.BoolOp t_or t_and/ceT.Compare t_cmp/ceT.Call t_call/ceT. t_name/ceOr.nil or_nil/ceOr. or_step/ceAndT.nil andT_nil/ceAndT. andT_step/ceAnd. and_one and_step/ceEs.nil es_nil/ceEs. es_cons/ceIfs.nil ifs_nil/ceIfs. ifs_one/ceOpt.none opt_none/ceOpt. opt_some/ceSs.nil ss_nil/ceSs. ss_step/ceS.Return s_ret/ceS.If s_if/ceS.For s_forG s_forR s_for/ceS.Assign s_asg s_row s_tup s_setitem s_asgf/ceS.AugAssign s_aug s_augitem/ceS.Expr s_own s_push s_newrow/ceS.While s_while/turnL turn_ok turn_no/turnD turnD_ok turnD_no/turnF turnF_ok turnF_ret"
def rows (k:String):Option (List String):=(((tab.splitOn "/").map (·.splitOn " ")).find? fun r=>r.head! ==k).map jA
def oZ (s:String):String:=(s.splitOn ".").getLast!
def Oa (nm h:String):List String:=((rows (nm++"." ++h)).orElse fun _=>rows (nm++".")).getD []
def special (x:X):Bool:=match x with
| .app _ (.lit (.strVal s))=>vQ s "len range sum list isinstance divmod"
| _=>false
def O3 (t:X):Bool:=(t.find? fun s=>vQ (hd s) "Expr.ListComp Expr.DictComp Operator.Pow Operator.LShift Operator.RShift Operator.BitAnd" ||(hd s=="Expr.Call" &&s.getAppNumArgs==4&&hd (s.getArg! 0)=="Expr.Name" &&(s.getArg! 0).getAppNumArgs==2&&!special ((s.getArg! 0).getArg! 0))).isSome
def Hi:Nat->X->MetaM Bool
| 0,_=>pure false
| k+1,e=>do
  let t <-kw S e
  if vQ (hd t) "D.int Int.ofNat Int.negSucc Nat.succ" then Hi k t.appArg! else return t.isRawNatLit ||hd t=="Nat.zero" ||t.nat?.isSome
def apart (a b:X):Bool:=
 let f (e:X):String:=if hd e=="Lake.inop" then "Lake.binop" else hd e
 let l:="Lake.itemsOf Lake.ownMeth Lake.ceCall Lake.methD Lake.subD Lake.iterLoop Lake.cmp Lake.binop"
 f a !=f b&&vQ (f a) l&&vQ (f b) l
def Oq:List X->List X->MetaM Bool
| a::l,b::m=>do if <-Oq l m then Pg S a b else return false
| _,_=>pure true
def P6 (a b:X):MetaM Bool:=if vQ (hd a) "Lake.iterLoop Lake.subD" &&hd b==hd a then Oq S a.getAppArgs.toList b.getAppArgs.toList else Pg S a b
def OU:List X->MetaM (List (X×X×X×X))
| []=>pure []
| x::r=>do
  let t <-whnfR (<-instantiateMVars (<-inferType x))
  let l <-OU r
  return match t.eq? with
   | some (t,a,b)=>if a.hasExprMVar then l else (t,a,b,x)::l
   | none=>l
def KI (g:MVarId) (lhs rhs ty:X):List (X×X×X×X)->MetaM (Option R)
| []=>pure none
| (t,a,b,x)::l=>do
  if t==ty&&!apart lhs a then
   if <-P6 S lhs a then
    if Pz b (<-instantiateMVars rhs) then return some none
    if <-isDefEq rhs b then return <-put g (<-mkEq lhs rhs) x
  KI g lhs rhs ty l
def Ps (g:MVarId) (lhs rhs:X):MetaM (Option R):=do KI S g lhs rhs (<-inferType lhs) (<-OU (<-getLocalHyps).toList)
def zJ (c:X):List (X×X×X×X)->MetaM (Option (X×X))
| []=>pure none
| (t,a,b,x)::l=>do
  if t.isConst&&vQ (hd b) "Bool.true Bool.false" then
   if <-Pg S c a then return some (b,x)
  zJ c l
def Oy (x:MetaM R):MetaM (Option R):=do
 let s <-saveState
 try
  match <-x with
  | some l=>return some (some l)
  | none=>s.restore;return some none
 catch _=>s.restore;return none
def Eh (rec:MVarId->MetaM R):List MVarId->MetaM R
| []=>return some []
| x::l=>do
  if <-x.isAssigned then Eh rec l
  else if !(<-isProp (<-instantiateMVars (<-x.getType))) then Eh rec l
  else match <-rec x with
   | none=>return none
   | some a=>match <-Eh rec l with
    | none=>return none
    | some b=>return some (a++b)
def OF (rec:MVarId->MetaM R) (g:MVarId) (r:String):MetaM R:=do Eh rec (<-g.apply (.const (.str `MP.Lake r) (<-mkFreshLevelMVars (<-getConstInfo (.str `MP.Lake r)).levelParams.length)) {newGoals:= .all})
def C0:List MVarId->MetaM Bool
| []=>pure false
| x::l=>do
  match (<-instantiateMVars (<-x.getType)).eq? with
  | some (_,a,b)=>
   if !(a.hasExprMVar ||b.hasExprMVar ||vQ (hd a) "Lake.binop Lake.itemsOf Lake.iterLoop Lake.subD Lake.ceCall") then
    if <-(try Oe S a b catch _=>pure false) then return true
  | none=>pure ()
  C0 l
def one (rec:MVarId->MetaM R) (g:MVarId) (lhs rhs t:X) (d:Nat) (r:String):MetaM R:=do
 let f <-Pk (lhs.getArg! 1) d
 let lhs':=mkAppN lhs.getAppFn ((lhs.getAppArgs.set! 1 (<-mkAdd f (mkNatLit d))).set! 4 t)
 let g' <-g.replaceTargetDefEq (<-mkEq lhs' rhs)
 let q <-mkFreshExprMVar (<-inferType rhs)
 let g2 <-mkFreshExprSyntheticOpaqueMVar (<-mkEq lhs' q)
 let gs <-withReducibleAndInstances (g2.mvarId!.apply (cn ("MP.Lake." ++r)) {newGoals:= .all})
 if !(<-isDefEq q rhs) then throwError "u"
 g'.assign g2
 match <-Eh rec gs with
| none=>return none
| some l=>if <-C0 S l then return none else return some l
def CE (g:MVarId) (f:String->MetaM R) (strict:Bool):Bool->List String->MetaM R
| no,[]=>return if no then none else some [g]
| no,r::l=>do
  match <-Oy (f r) with
  | some (some l)=>return some l
  | some none=>CE g f strict (strict ||l.isEmpty) l
  | none=>CE g f strict no l
def orElse (x:MetaM (Option R)) (y:MetaM R):MetaM R:=do
 match <-x with
| some r=>return r
| none=>y
def Nr (rec:MVarId->MetaM R) (g:MVarId):List Name->MetaM (Option R)
| []=>pure none
| s::l=>do
  match <-Oy (do Eh rec (<-withReducible (g.apply (<-mkConstWithFreshMVarLevels s)))) with
  | some (some r)=>return some (some r)
  | _=>Nr rec g l
def KR (x:MetaM R):MetaM (Option R):=do
 match <-Oy (do
  match <-x with
  | some []=>return some []
  | _=>throwError "w") with
| some (some r)=>return some (some r)
| _=>return none
def leaf (rec:MVarId->MetaM R) (specs:List Name) (g:MVarId) (lhs rhs:X) (nm:String):MetaM R:=do
 let Ss:MetaM R:=return some [g]
 let Z2:=Ps S g lhs rhs
 let arg (i:Nat):X:=lhs.getAppArgs.getD i lhs
 let fin:MetaM R:=orElse (zt S g lhs rhs) (orElse Z2 Ss)
 let to (e:X):MetaM MVarId:=do g.replaceTargetDefEq (<-mkEq e rhs)
 match rows nm with
| some rs=>CE g (OF rec g) false false rs
| none=>
  if nm=="ceCall" then orElse (Nr rec g specs) (if special (arg 2) then fin else Ss)
  else if nm=="bind" &&hd rhs=="Option.none" then orElse (KR (OF rec g "bind_none")) fin
  else if nm=="cmp" then orElse Z2 fin
  else if nm=="contL" then
   if hd (<-kw S (arg 5))=="Option.none" then rec (<-to (mkAppN (cn "MP.Lake.iterLoop") (lhs.getAppArgs.extract 0 5))) else Ss
  else if nm=="iterLoop" then orElse Z2 (do
   let ds <-kw S (arg 2)
   let h:=hd ds
   if vQ h "List.nil List.cons" then OF rec (<-to (mkAppN lhs.getAppFn (lhs.getAppArgs.set! 2 ds))) (if h=="List.nil" then "loop_nil" else "loop_cons") else Ss)
  else if nm=="itemsOf" then
   let a <-kw S (arg 0)
   if hd a !="D.rng" then fin else if (<-Hi S 80 (a.getArg! 0))&&(<-Hi S 80 (a.getArg! 1)) then fin else Ss
  else if nm=="binop" &&vQ (hd (arg 0)) "Operator.Pow Operator.LShift Operator.RShift" then
   if (<-Hi S 80 (arg 1))&&(<-Hi S 80 (arg 2)) then fin else Ss
  else if vQ nm "nameD lookup varD" then orElse Z2 (do
   let s:=arg 2
   if nm=="nameD" &&hd s=="St.withRho" then
    if hd (<-whnfR (s.getArg! 0))=="St.comp" then orElse (zt S g lhs rhs) (orElse (KR (OF rec g "comp_free")) fin) else fin
   else fin)
  else fin
def go (specs:List Name):Nat->MVarId->MetaM R
| 0,g=>return some [g]
| k+1,g=>g.withContext do
  let Ss:MetaM R:=return some [g]
  let ty <-whnfR (<-instantiateMVars (<-g.getType))
  if <-(try withReducible g.assumption;pure true catch _=>pure false) then return some []
  if hd ty=="LE.le" &&hd ty.appArg! =="Lake.lim" then
   let a:=ty.appFn!.appArg!
   if a.hasExprMVar then return <-Ss
   let q <-(try kw S (mkApp2 (cn "Nat.ble") a ty.appArg!) catch _=>pure a)
   if hd q=="Bool.true" then
    g.assign (mkApp3 (cn "Nat.le_of_ble_eq_true") a ty.appArg! (<-mkEqRefl q))
    return some []
   else return <-Ss
  match ty.eq? with
  | none=>Ss
  | some (_,lhs,rhs)=>
   if lhs.hasExprMVar then return <-Ss
   let UY:=go specs k
   let nm:=oZ (hd lhs)
   if nm=="cond" then
    let c0:=lhs.getArg! 1
    let c <-kw S c0
    let es <-OU (<-getLocalHyps).toList
    match <-(if vQ (hd c) "Bool.true Bool.false" then return some (c,<-mkEqRefl c) else zJ S c0 es) with
    | none=>Ss
    | some (b,pf)=>
     let t:=hd b=="Bool.true"
     let g' <-mkFreshExprSyntheticOpaqueMVar (<-mkEq (lhs.getArg! (if t then 2 else 3)) rhs)
     g.assign (mkAppN (cn (if t then "MP.Lake.condT" else "MP.Lake.condF")) #[lhs.getArg! 0,c0,lhs.getArg! 2,lhs.getArg! 3,rhs,mkApp2 (.const `id [.zero]) (<-mkEq c0 b) pf,g'])
     UY g'.mvarId!
   else if nm=="contS" then
    if hd (<-kw S (lhs.getArg! 4))=="Fl.next" then UY (<-g.replaceTargetDefEq (<-mkEq (mkAppN (cn "MP.Lake.ceSs") #[lhs.getArg! 0,lhs.getArg! 1,lhs.getArg! 2,lhs.getArg! 5,lhs.getArg! 3,lhs.getArg! 6]) rhs)) else leaf S UY specs g lhs rhs nm
   else if vQ nm "ceE ceT ceEs ceOr ceAndT ceAnd ceIfs ceOpt ceSs ceS" then
    let t <-Pp S true 60 (<-kw S (lhs.getArg! 4))
    let h:=oZ (hd t)
    let rs:=if hd rhs=="Option.none" then (rows ("none." ++h)).getD [] else Oa nm h
    orElse (if O3 t then return none else zt S g lhs rhs) (CE g (one S UY g lhs rhs t (if vQ h "For While" then 2 else 1)) true false rs)
   else leaf S UY specs g lhs rhs nm
def all (specs:List Name):List MVarId->MetaM (List MVarId)
| []=>pure []
| g::l=>do
  let a <-(do
   if <-g.isAssigned then return []
   if !(<-(try isProp (<-instantiateMVars (<-g.getType)) catch _=>pure false)) then return [g]
   match <-Oy (go S specs 200 g) with
   | some (some r)=>return r
   | _=>return [g])
  return a++(<-all specs l)
def ce (specs:List Name:=[]):TacticM Unit:=do
 let gs <-getGoals
 let ts <-gs.mapM fun g=>do instantiateMVars (<-g.getType)
 let S:X->X <-(do match ts.findSome? fun t=>t.find? fun s=>hd s=="Lake.lwC" ||(hd s=="Lake.fsc" &&s.getAppNumArgs==2) with
  | some s=>
   let v <-kw id s
   return fun e=>e.replace fun x=>if x==s then some v else none
  | none=>return id)
 setGoals (<-all S specs gs)
 pruneSolvedGoals
def ceT:TacticM Unit:=do
 match <-getGoals with
| g::r=>setGoals ((<-all id [] [g])++r)
| []=>pure ()
end Wk
end MP.Lake
local macro_rules | `(tactic| symm) => `(tactic| run_tac MP.Lake.Wk.ce)
namespace MP.Lake
open PySem
noncomputable abbrev P1:bY:=ee
theorem im:∀ {n:Nat} {f:Str} {ps:List Str} {ds:List D} {g g1:G} {d:D} {QZ:St} (hs:special f=none) (hf:pd P1 f=some ⟨ps,fsc P1 f,fb P1 f⟩) (hc:(ps.length==ds.length&&!(fsc P1 f).isGenerator)=true) (h1:ceSs P1 n (fsc P1 f) ⟨ps.zip ds,[],none⟩ (fb P1 f) g=some (.ret d,QZ,g1)),ceCall P1 (n+1) f ds g=some (d,g1):=by iterate 12 exact (JQ (fn:=⟨ps,fsc P1 f,fb P1 f⟩) hs hf hc h1)
theorem IX:∀ (k:Nat) (a:Int),vH k a=(aN k).map fun i:Nat=>D.int (a+i):=by iterate 0 intro k;induction k with | zero=>intro _;exact rfl | succ k Qo=>intro a;(dsimp only [vH];rw [Qo (a+1),gO]);simp [kQ,kG,lh 1]
theorem qe:∀ {k:Nat} (h:k<=lim),itemsOf (.rng 0 (k:Int))=some ((aN k).map fun i:Nat=>D.int i):=by iterate 2
 unfold lim at h;have:y7 0 (k:Int)=true:=by unfold y7 lim;simp only [decide_eq_true_eq];omega
 unfold itemsOf;dsimp only;simp only [this,if_true,IX];simp
theorem uM:∀ l:List Int,tg (l.map .int)=some l:=by iterate 0 intro l;induction l with | nil=>exact rfl | cons x l Qo=>exact f8 rfl (f8 (Qo) rfl)
theorem zX:∀ {b:Nat} {k:Int} (hb:lw (b:Int)=true) (h0:0<=k) (h:k<=1000000),binop .Pow (.int b) (.int k)=some (.int ((b:Int) ^ k.toNat)):=by iterate 5 exact f8 rfl (f8 rfl (if_pos ⟨h0,h,hb⟩))
theorem pX:∀ {xs:List D} {k:Nat} {d:D} (h:xs[k]? =some d),subD P1 (.lst xs) (.int (k:Int))=some d:=by iterate 4 exact f8 (show qx (.int (k:Int))=some k from f8 rfl (if_pos (az k))) h
theorem w9:∀ {a b:Int} (h:(lw b ||lw a)=true),binop .Mult (.int a) (.int b)=some (.int (a * b)):=by iterate 3 exact f8 rfl (f8 rfl (if_pos h))
theorem xh:∀ {a:Int} (h1: -1000<=a) (h2:a<=1000),lw a=true:=by iterate 3 unfold lw;simp only [decide_eq_true_eq];omega
theorem qM:∀ {n:Nat} {f:Str} {h:List D->G->Option (D×G)} {ds:List D} {g:G} {r:D×G} (hs:special f=some h) (hn:30<=n) (h1:h ds g=some r),ceCall P1 (n+1) f ds g=some r:=by iterate 9 show rF P1 (fs P1 n) n f ds g=_;unfold rF;rw [hs];exact f8 (oR (decide_eq_true hn)) h1
theorem Cd:∀ {l:List Int} {g:G} (h:∀ x∈l,x.natAbs<1099511627776),uf [.lst (l.map .int)] g=some (.int l.sum,g):=by iterate 3
 have:(l.all fun i=>decide (i.natAbs<1099511627776))=true:=aj.mpr fun x hx=>by simpa using h x hx
 exact f8 rfl (f8 rfl (f8 (uM l) (if_pos this)))
theorem II:∀ {α:Type} {f:α->Int} {l:List α},l.map (fun k=>D.int (f k))=(l.map f).map D.int:=by iterate 3 simp
theorem MD:pd P1 "_law_number" =some ⟨["row"],fsc P1 "_law_number",fb P1 "_law_number"⟩:=by iterate 0 rfl'
noncomputable def Et (row:List Int):Int:=((aN row.length).map fun k=>row.getD k 0 * 64 ^ (row.length-1-k)).sum
theorem Fo:∀ {x:Int} {j:Nat} (h0:0<=x) (h1:x<64) (hj:j<=4),(x * 64 ^ j).natAbs<1099511627776:=by iterate 5
 have h2:(64:Int) ^ j<=64 ^ 4:=by exact_mod_cast a8 (by decide) hj
 have h3:(0:Int)<=64 ^ j:=Int.pow_nonneg (by decide);have h4:x * 64 ^ j<=64 * 64 ^ 4:=Int.mul_le_mul (by omega) h2 h3 (by decide);have h5:0<=x * 64 ^ j:=ir h0 h3;have:(64:Int) * 64 ^ 4=1073741824:=by decide
 omega
theorem L3:∀ {m:Nat} {row:List Int} {g:G} (hl:row.length<=4) (hb:∀ x∈row,0<=x/\x<64),ceCall P1 (m+45) "_law_number" [.lst (row.map .int)] g=some (.int (Et row),g):=by iterate 5
 have hg:∀ k,0<=row.getD k 0/\row.getD k 0<64:=fun k=>by rw [bl];cases e:row[k]? with | none=>simp | some x=>exact hb x (bL e)
 apply im (by rfl') MD (by rfl');symm
 ·rw [aG];exact qe (by unfold lim;omega)
 ·refine qF (F:=fun k=> .int (row.getD k 0 * 64 ^ (row.length-1-k))) fun k hk acc=>?_;have hk:=cz.mp hk;symm
  ·exact pX (d:= .int (row.getD k 0)) (by simp [hk])
  ·exact zX (k:=((row.map D.int).length:Int)-1-k) (b:=64) rfl (by simp;omega) (by simp;omega)
  ·have e:(((row.map D.int).length:Int)-1-k).toNat=row.length-1-k:=by simp
   rw [e];exact w9 (by rw [xh (a:=row.getD k 0) (by have:=hg k;omega) (by have:=hg k;omega),fM])
 ·simp [lim];omega
 ·symm
 ·refine qM (h:=uf) (by rfl') (by omega) ?_;rw [a9,II];refine Cd fun x hx=>?_;obtain ⟨k,hk,rfl⟩:=aH.mp hx;have:=hg k;exact Fo this.1 this.2 (by omega)
 ·symm
set_option maxRecDepth 100000
theorem Ng:pd P1 "ISNONTERMINAL" =some ⟨["x"],fsc P1 "ISNONTERMINAL",fb P1 "ISNONTERMINAL"⟩:=by iterate 0 rfl'
theorem NG:∀ {m:Nat} {x:Int} {g:G},ceCall P1 (m+20) "ISNONTERMINAL" [.int x] g=some (.bool (decide (256<=x)),g):=by iterate 3 apply im (by rfl') Ng (by rfl');symm
theorem Mo:pd P1 "ISEOF" =some ⟨["x"],fsc P1 "ISEOF",fb P1 "ISEOF"⟩:=by iterate 0 rfl'
theorem zU:∀ {m:Nat} {x:Int} {g:G},ceCall P1 (m+20) "ISEOF" [.int x] g=some (.bool (x==0),g):=by iterate 3 apply im (by rfl') Mo (by rfl');symm
theorem LZ:pd P1 "_div2n1n" =some ⟨["a","b","n"],fsc P1 "_div2n1n",fb P1 "_div2n1n"⟩:=by iterate 0 rfl'
theorem Lh:∀ {m:Nat} {a b:Int} {n:Nat} {g:G} (ha:dL a.natAbs<=4000) (hb:b≠0) (hs:lw b=true),ceCall P1 (m+45) "_div2n1n" [.int a,.int b,.int n] g=some (.tup [.int (aL a b),.int (aQ a b)],g):=by iterate 8 apply im (by rfl') LZ (by rfl');symm;rw [decide_eq_true (by omega)];symm;refine qM (h:=we) (by rfl') (by omega) ?_;refine f8 rfl (f8 rfl (f8 rfl (if_pos ⟨hb,hs⟩)));symm
noncomputable def py (B:Nat) (v:Nat) (ds:List Nat):Nat:=ds.foldl (fun v d=>v * B+d) v
theorem q8:∀ {B:Nat},∀ (ds:List Nat) (v:Nat),py B v ds=v * B ^ ds.length+py B 0 ds:=by iterate 1 intro ds;induction ds with | nil=>intro v;simp [py] | cons d ds Qo=>intro v;show py B (v * B+d) ds=v * B ^ (ds.length+1)+py B (0 * B+d) ds;rw [Qo (v * B+d),Qo (0 * B+d),fQ,gH,fP,dM];rw [Nat.mul_assoc,bE B,aK]
theorem Df:∀ {B:Nat},∀ (ds:List Nat),(∀ d∈ds,d<B)->py B 0 ds<B ^ ds.length:=by iterate 1
 intro ds;induction ds with
 | nil=>intro _;simp [py]
 | cons d ds Qo=>
  intro h;show py B (0 * B+d) ds<B ^ (ds.length+1);rw [q8,fP,dM,fQ];have h1:=Qo fun x hx=>h x (by simp [hx]);have h2:=h d (by simp);calc d * B ^ ds.length+py B 0 ds<d * B ^ ds.length+B ^ ds.length:=by omega
   _=(d+1) * B ^ ds.length:=by rw [gH,lL]
   _<=B * B ^ ds.length:=fg _ h2
   _=B ^ ds.length * B:=bE _ _
noncomputable def tE:Nat->Nat->Nat->List Nat
| 0,_,_=>[]
| k+1,b,a=>a % b::tE k b (a / b)
theorem JT:∀ (k b a:Nat),pH k b a=(tE k b a).map fun x:Nat=>(x:Int):=by iterate 0 intro k;induction k with | zero=>intro _ _;exact rfl | succ k Qo=>intro b a;(dsimp only [pH,tE];simp [Qo])
theorem A7:∀ (k b a:Nat),(tE k b a).length=k:=by iterate 0 intro k;induction k with | zero=>intro _ _;exact rfl | succ k Qo=>intro b a;(dsimp only [tE];simp [Qo])
theorem Ja:∀ {b:Nat} (hb:0<b),∀ (k a:Nat),∀ d∈tE k b a,d<b:=by iterate 2
 intro k;induction k with
 | zero=>intro _ d h;(dsimp only [tE] at h;simp at h)
 | succ k Qo=>
  intro a d h;(dsimp only [tE] at h;simp only [aq] at h);rcases h with rfl | h
  ·exact bR _ hb
  ·exact Qo _ d h
theorem D5:∀ {b:Nat},∀ (k a:Nat),a<b ^ k->py b 0 (tE k b a).reverse=a:=by iterate 1 intro k;induction k with | zero=>intro a h;simp at h;subst h;rfl | succ k Qo=>intro a h;have:a / b<b ^ k:=il (by rw [fQ,bE] at h;exact h);(dsimp only [tE,py];simp only [gm,iN,jB,mW]);have ih:=Qo (a / b) this;unfold py at ih;rw [ih,bE];exact eB a b
theorem Hu:∀ {B:Nat},∀ (l:List Nat),na (l.map fun x:Nat=>(x:Int)) (B:Int)=(py B 0 l.reverse:Nat):=by iterate 1 intro l;induction l with | nil=>exact rfl | cons d l Qo=>rw [aB];dsimp only [na];simp only [gm,py,iN,jB,mW,Qo];rw [fy,da,eQ,lh]
theorem vC:∀ {l:List Nat},(l.map fun x:Nat=>(x:Int)).map D.int=l.map fun x:Nat=>D.int x:=by iterate 1 simp
theorem LF:pd P1 "_divmod_pos" =some ⟨["a","b"],fsc P1 "_divmod_pos",fb P1 "_divmod_pos"⟩:=by iterate 0 rfl'
noncomputable def Nl:Expr:=D3 (at_ (fb P1 "_divmod_pos") 4)
noncomputable def M5:List Stmt:=p7 (at_ (fb P1 "_divmod_pos") 4)
theorem K1:∀ {a k:Nat} (ha:a<1000000000000) (hk:k<=60),binop .LShift (.int a) (.int k)=some (.int (a * 2 ^ k:Nat)):=by iterate 4
 have:lw (a:Int)=true:=by unfold lw;simp only [decide_eq_true_eq];omega
 have h:binop .LShift (.int a) (.int k)=some (.int (a * 2 ^ (k:Int).toNat)):=f8 rfl (f8 rfl (if_pos ⟨by omega,by omega,this⟩));rw [h,aP,da,eD];rfl
theorem IG:∀ {a b:Nat},binop .Add (.int (a:Int)) (.int (b:Int))=some (.int ((a+b:Nat):Int)):=by iterate 2 exact (rfl)
theorem rE:∀ {xs:List D} {d:D} (h:xs.length<lim),ownMeth "append" xs [d]=some (xs++[d]):=by iterate 3
 have:ownMeth "append" xs [d]=if xs.length<lim then some (xs++[d]) else none:=by rfl'
 rw [this,if_pos h]
theorem IJ:∀ {m a b n:Nat} {g:G} (ha:a<2 ^ 1000) (hb:0<b) (hs:b<2 ^ 60),ceCall P1 (m+45) "_div2n1n" [.int a,.int b,.int n] g=some (.tup [.int (a / b:Nat),.int (a % b:Nat)],g):=by iterate 8
 have h1:dL a<=1000:=by
  unfold dL;split
  ·omega
  ·rename_i h0;exact (iz h0).mpr ha
 have h2:lw (b:Int)=true:=by unfold lw;simp only [decide_eq_true_eq];omega
 have:=Lh (m:=m) (a:=a) (b:=b) (n:=n) (g:=g) (by rw [fZ];omega) (by omega) h2;rw [this,aV _ (az _),aU _ (az _)];rfl
theorem FG:∀ {m n b:Nat} {g:G} (hn:n<=30) (h0:0<b) (hb:b<2 ^ n),∀ (ds:List Nat) (T:Qr) (r:Nat) (qs:List Nat),(∀ d∈ds,d<2 ^ n)->Qr.At T "n" (.int n)->Qr.At T "b" (.int b)->Qr.At T "r" (.int r)->T.lookup ("q_digits" :Str)=none->r<b->qs.length+ds.length<=100->
  ∃ T' r' Uz,iterLoop (turnF P1 (m+60) (fsc P1 "_divmod_pos") Nl M5) (ds.map fun x:Nat=>D.int x) ⟨T,[],some ("q_digits",.lst (qs.map fun x:Nat=>D.int x))⟩ g=some (⟨T',[],some ("q_digits",.lst ((qs++Uz).map fun x:Nat=>D.int x))⟩,g,none)/\
   Qr.At T' "n" (.int n)/\T'.lookup ("q_digits" :Str)=none/\Qr.At T' "r" (.int (r':Nat))/\r'<b/\Uz.length=ds.length/\(∀ d∈Uz,d<2 ^ n)/\py (2 ^ n) r ds=py (2 ^ n) 0 Uz * b+r':=by iterate 7
 intro ds;induction ds with
 | nil=>intro T r qs _ h1 h2 h3 hq0 h4 _;exact ⟨T,r,[],by rw [aS];rfl,h1,hq0,h3,h4,rfl,by simp,by simp [py]⟩
 | cons d ds Qo=>
  intro T r qs hd h1 h2 h3 hq0 h4 h5;have hx:r * 2 ^ n+d<2 ^ 1000:=by
   have h6:=hd d (by simp);have h7:(2:Nat) ^ n<=2 ^ 30:=a8 (by decide) hn;have h8:r * 2 ^ n<=2 ^ 30 * 2 ^ 30:=nk (by omega) h7;have h9:(2:Nat) ^ 30 * 2 ^ 30+2 ^ 30<2 ^ 1000:=by decide
   omega
  have hr:r<1000000000000:=by
   have h7:(2:Nat) ^ n<=2 ^ 30:=a8 (by decide) hn;have:(2:Nat) ^ 30<1000000000000:=by decide
   omega
  have Vu:b<2 ^ 60:=by have h7:(2:Nat) ^ n<=2 ^ 60:=a8 (by decide) (by omega);omega
  have SN:turnF P1 (m+60) (fsc P1 "_divmod_pos") Nl M5 (.int d) ⟨T,[],some ("q_digits",.lst (qs.map fun x:Nat=>D.int x))⟩ g=some (⟨("r",.int ((r * 2 ^ n+d) % b:Nat))::("q_digit",.int ((r * 2 ^ n+d) / b:Nat))::("a_digit",.int d)::T,[],some ("q_digits",.lst ((qs.map fun x:Nat=>D.int x)++[.int ((r * 2 ^ n+d) / b:Nat)]))⟩,g,none):=by
   symm
   ·exact K1 hr (by omega)
   ·exact IG
   ·exact IJ hx h0 Vu
   symm
   ·exact rE (by simp [lim] at *;omega)
   symm
  have hq:(r * 2 ^ n+d) / b<2 ^ n:=by
   refine il ?_;have h6:=hd d (by simp);calc r * 2 ^ n+d<r * 2 ^ n+2 ^ n:=by omega
    _=(r+1) * 2 ^ n:=by rw [gH,lL]
    _<=b * 2 ^ n:=fg _ h4
  obtain ⟨T',r',Uz,e1,e2,e0,e3,e4,e5,e6,e7⟩:=Qo (("r",.int ((r * 2 ^ n+d) % b:Nat))::("q_digit",.int ((r * 2 ^ n+d) / b:Nat))::("a_digit",.int d)::T) ((r * 2 ^ n+d) % b) (qs++[(r * 2 ^ n+d) / b]) (fun x hx=>hd x (by simp [hx])) (by symm) (by symm) (by symm) (by symm) (bR _ h0) (by simp at h5 ⊢;omega);refine ⟨T',r',(r * 2 ^ n+d) / b::Uz,?_,e2,e0,e3,e4,by simp [e5],fun x hx=>?_,?_⟩
  ·rw [aB];refine f8 SN ?_;simp only [dG,aB,iU,bK,kL] at e1 ⊢;exact e1
  ·rcases aq.mp hx with rfl | hx
   ·exact hq
   ·exact e6 x hx
  ·show py (2 ^ n) (r * 2 ^ n+d) ds=py (2 ^ n) (0 * 2 ^ n+(r * 2 ^ n+d) / b) Uz * b+r';rw [q8,fP,dM,q8 Uz];rw [q8] at e7;have h6:=eB (r * 2 ^ n+d) b;rw [e5];generalize (2 ^ n) ^ ds.length=P at e7 ⊢;generalize r * 2 ^ n+d=X at h6 e7 ⊢;have h8:X * P=X / b * b * P+X % b * P:=by rw [<-gH,bE (X / b) b,h6]
   have h9:(X / b * P+py (2 ^ n) 0 Uz) * b=X / b * b * P+py (2 ^ n) 0 Uz * b:=by rw [gH,Nat.mul_right_comm]
   omega
theorem Ee:∀ {a b:Nat} (ha:a<2 ^ 30) (hb:b<2 ^ 30) (h0:0<b),1<=dL b/\dL b<=30/\b<2 ^ dL b/\a<(2 ^ dL b) ^ ((dL a+dL b-1) / dL b)/\(dL a+dL b-1) / dL b * dL b<=60/\(dL a+dL b-1) / dL b<=60:=by iterate 5
 have lt:∀ x:Nat,x<2 ^ dL x:=fun x=>by
  unfold dL;split
  ·subst_vars;decide
  ·exact mD
 have le:∀ x:Nat,x<2 ^ 30->dL x<=30:=fun x h=>by
  unfold dL;split
  ·omega
  ·rename_i h0;exact (iz h0).mpr h
 have h1:1<=dL b:=by unfold dL;rw [if_neg (by omega)];omega
 have h2:=lt a;have h3:=lt b;have h4:=le a ha;have h5:=le b hb;generalize dL b=n at *;generalize dL a=k at *;have h6:=eB (k+n-1) n;have h7:=bR (k+n-1) (show 0<n by omega);have h8:(k+n-1) / n * n<=60:=by rw [bE];omega
 refine ⟨h1,h5,h3,?_,h8,bw (gG _ (by omega)) h8⟩;rw [<-jN];exact dB h2 (a8 (by decide) (by omega))
theorem FY:∀ {k a n:Nat} {g:G} (hk:30<=k) (ha:a<2 ^ 60) (h1:1<=n) (h2:n<=60),ceCall P1 (k+1) "_int2digits" [.int a,.int n] g=some (.lst ((tE ((dL a+n-1) / n) (2 ^ n) a).map fun x:Nat=>D.int x),g):=by iterate 8 refine qM (h:=qS) (by rfl') hk ?_;refine f8 rfl (f8 rfl (f8 rfl ?_));simp only [aP];rw [if_pos ⟨by omega,by omega,by omega,by omega⟩,JT,vC]
theorem FO:∀ {k n:Nat} {l:List Nat} {g:G} (hk:30<=k) (h1:1<=n) (h2:l.length * n<=60) (h3:∀ d∈l,d<2 ^ n),ceCall P1 (k+1) "_digits2int" [.lst (l.map fun x:Nat=>D.int x),.int n] g=some (.int (py (2 ^ n) 0 l.reverse:Nat),g):=by iterate 8
 refine qM (h:=qN) (by rfl') hk ?_;have QD:((l.map fun x:Nat=>(x:Int)).all fun d=>decide (0<=d/\d<2 ^ n))=true:=aj.mpr fun d hd=>by obtain ⟨x,hx,rfl⟩:=aH.mp hd;have:=h3 x hx;simp only [decide_eq_true_eq];exact ⟨az _,by exact_mod_cast this⟩
 rw [<-vC];refine f8 rfl (f8 rfl (f8 rfl (f8 (uM _) ?_)));simp only [aP,aG];rw [if_pos ⟨by omega,h2,QD⟩,<-Hu,eD];rfl
theorem Jj:∀ {m a b n K:Nat} {g:G} (hn:n=dL b) (hK:K=(dL a+n-1) / n) (ha:a<2 ^ 60) (h0:0<b) (n1:1<=n) (n2:n<=30) (n3:b<2 ^ n) (n4:a<(2 ^ n) ^ K) (n5:K * n<=60) (n6:K<=60),∃ QZ,ceSs P1 (m+89) (fsc P1 "_divmod_pos") ⟨([("a",.int a),("b",.int b)]:Qr),[],none⟩ (fb P1 "_divmod_pos") g=some (.ret (.tup [.int (a / b:Nat),.int (a % b:Nat)]),QZ,g):=by iterate 16
 obtain ⟨T',r',Uz,e1,e2,e0,e3,e4,e5,e6,e7⟩:=FG (m:=m+22) (g:=g) n2 h0 n3 (tE K (2 ^ n) a).reverse (("r",.int 0)::("a_digits",.lst ((tE K (2 ^ n) a).map fun x:Nat=>D.int x))::("n",.int n)::("a",.int a)::("b",.int b)::[]) 0 [] (fun d hd=>Ja (dk (by decide)) K a d (dm.mp hd)) (by rfl') (by rfl') (by rfl') (by rfl') h0 (by simp [A7];omega);rw [D5 K a n4] at e7;rw [dq] at e1;rw [ed,A7] at e5;have hq:a / b=py (2 ^ n) 0 Uz:=by rw [e7,bE];exact (ia h0 _ _).trans (by rw [eY e4];rfl)
 have hr:a % b=r':=by rw [e7,bE,jO];exact gM e4
 rw [hq,hr];apply eK;symm
 ·rw [fZ,<-hn];exact FY (by omega) ha n1 (by omega)
 rw [fZ,<-hn,<-hK];symm
 ·rw [<-dq,a9];have:=FO (k:=m+79) (n:=n) (l:=Uz.reverse) (g:=g) (by omega) n1 (by rw [ed,e5];exact n5) (fun d hd=>e6 d (dm.mp hd));rw [cu] at this;exact this
 symm
theorem Mp:∀ {m a b:Nat} {g:G} (ha:a<2 ^ 30) (hb:b<2 ^ 30) (h0:0<b),ceCall P1 (m+90) "_divmod_pos" [.int a,.int b] g=some (.tup [.int (a / b:Nat),.int (a % b:Nat)],g):=by iterate 7 obtain ⟨n1,n2,n3,n4,n5,n6⟩:=Ee ha hb h0;obtain ⟨QZ,h⟩:=Jj (m:=m) (g:=g) rfl rfl (by omega) h0 n1 n2 n3 n4 n5 n6;exact im (by rfl') LF (by rfl') h
theorem BZ:pd P1 "int_divmod" =some ⟨["a","b"],fsc P1 "int_divmod",fb P1 "int_divmod"⟩:=by iterate 0 rfl'
theorem zW:∀ {m a b:Nat} {g:G} (ha:a<2 ^ 30) (hb:b<2 ^ 30) (h0:0<b),ceCall P1 (m+110) "int_divmod" [.int a,.int b] g=some (.tup [.int (a / b:Nat),.int (a % b:Nat)],g):=by iterate 7
 have c1:((b:Int)==0)=false:=by simp;omega
 have c2:decide ((b:Int)<0)=false:=by simp
 have c3:decide ((a:Int)<0)=false:=by simp
 apply im (by rfl') BZ (by rfl');run_tac Wk.ce [``Mp]
theorem O7:∀ {a b:Nat} (h0:0<b), -((a / b:Nat):Int)-1=aL (-(a:Int)-1) b/\(b:Int)+(-((a % b:Nat):Int)-1)=aQ (-(a:Int)-1) b:=by iterate 3
 have h1:=eB a b;have h2:=bR a h0;have h3:(b:Int) * ((a / b:Nat):Int)+((a % b:Nat):Int)=a:=by exact_mod_cast h1
 rw [aV _ (az _),aU _ (az _)];have:=lD (a:= -(a:Int)-1) (b:=b) (r:=(b:Int)+(-((a % b:Nat):Int)-1)) (q:= -((a / b:Nat):Int)-1) (by omega);have h4:(b:Int) * (-((a / b:Nat):Int)-1)= -((b:Int) * ((a / b:Nat):Int))-b:=by rw [Int.mul_sub,Int.mul_neg,Int.mul_one]
 obtain ⟨h5,h6⟩:=this.mpr ⟨by rw [h4];omega,by omega,by omega⟩;exact ⟨h5.symm,h6.symm⟩
theorem L6:∀ {m a b:Nat} {g:G} (ha:a<2 ^ 30) (hb:b<2 ^ 30) (h0:0<b),ceCall P1 (m+130) "int_divmod" [.int (-(a:Int)-1),.int b] g=some (.tup [.int (-((a / b:Nat):Int)-1),.int ((b:Int)+(-((a % b:Nat):Int)-1))],g):=by iterate 7
 have c1:((b:Int)==0)=false:=by simp;omega
 have c2:decide ((b:Int)<0)=false:=by simp
 have c3:decide (-(a:Int)-1<0)=true:=by simp;omega
 have e: -(-(a:Int)-1)-1=a:=by omega
 apply im (by rfl') BZ (by rfl');symm
 ·rw [e];exact zW ha hb h0
 symm
theorem B8:∀ {m:Nat} {a:Int} {b:Nat} {g:G} (h1: -2 ^ 30<=a) (h2:a<2 ^ 30) (hb:b<2 ^ 30) (h0:0<b),ceCall P1 (m+130) "int_divmod" [.int a,.int b] g=some (.tup [.int (aL a b),.int (aQ a b)],g):=by iterate 8
 cases a with
 | ofNat k=>have hk:(k:Int)<2 ^ 30:=h2;have:=zW (m:=m+20) (a:=k) (g:=g) (by omega) hb h0;rw [show aL (Int.ofNat k) b=((k / b:Nat):Int) from by rw [aV _ (az _)];rfl,show aQ (Int.ofNat k) b=((k % b:Nat):Int) from by rw [aU _ (az _)];rfl];exact this
 | negSucc k=>
  have:=L6 (m:=m) (a:=k) (g:=g) (by omega) hb h0;have e:Int.negSucc k= -(k:Int)-1:=by omega
  obtain ⟨n1,n2⟩:=O7 (a:=k) h0;rw [e,<-n1,<-n2];exact this
theorem CG:∀ {m:Nat} {a:Int} {b:Nat} {g:G} (h1: -2 ^ 30<a) (h2:a<=2 ^ 30) (hb:b<2 ^ 30) (h0:0<b),ceCall P1 (m+150) "int_divmod" [.int a,.int (-(b:Int))] g=some (.tup [.int (aL (-a) b),.int (-(aQ (-a) b))],g):=by iterate 8
 have c1:((-(b:Int))==0)=false:=by simp;omega
 have c2:decide (-(b:Int)<0)=true:=by simp;omega
 have e: -(-(b:Int))=b:=by omega
 apply im (by rfl') BZ (by rfl');symm
 ·rw [e];exact B8 (by omega) (by omega) hb h0
 symm
set_option genCtorIdx true in
inductive BT where
| leaf (k:Nat)
| node (l r:BT)
theorem _root_.Cz.m6:Nonempty BT:=by iterate 0 exact (⟨.leaf 0⟩)
noncomputable def BT.d:BT->D
| .leaf k=> .int k
| .node l r=> .lst [l.d,r.d]
noncomputable def shapes:List (List BT):=
 let n:=BT.node
 let f:=BT.leaf
 [[n (n (f 0) (f 1)) (f 2),n (f 0) (n (f 1) (f 2))],
  [n (n (n (f 0) (f 1)) (f 2)) (f 3),n (n (f 0) (n (f 1) (f 2))) (f 3),n (n (f 0) (f 1)) (n (f 2) (f 3)),n (f 0) (n (n (f 1) (f 2)) (f 3)),n (f 0) (n (f 1) (n (f 2) (f 3)))]]
noncomputable def qU (four:Bool) (h:Nat):BT:=if four then ((shapes.getD 1 []).getD (h % 5) (.leaf 0)) else ((shapes.getD 0 []).getD (h % 2) (.leaf 0))
theorem zd:∀ {k:Nat} (h:k<5),k=0\/k=1\/k=2\/k=3\/k=4:=by iterate 2 omega
theorem Db:pd P1 "_law_tree" =some ⟨["count","number"],fsc P1 "_law_tree",fb P1 "_law_tree"⟩:=by iterate 0 rfl'
theorem Dg:∀ {m h:Nat} {four:Bool} {g:G},ceCall P1 (m+30) "_law_tree" [.int (if four then 4 else 3),.int h] g=some ((qU four h).d,g):=by iterate 4
 cases four with
 | false=>
  have e:aQ (h:Int) 2=((h % 2:Nat):Int):=by rw [aU _ (by decide)];rfl
  apply im (by rfl') Db (by rfl');symm
  ·rw [e];refine pX (d:=(qU false h).d) ?_;unfold qU;rcases dU h with h0 | h0<;>rw [h0]<;>rfl
  symm
 | true=>
  have e:aQ (h:Int) 5=((h % 5:Nat):Int):=by rw [aU _ (by decide)];rfl
  apply im (by rfl') Db (by rfl');symm
  ·rw [e];refine pX (d:=(qU true h).d) ?_;unfold qU;rcases zd (bR h (by decide:0<5)) with h0 | h0 | h0 | h0 | h0<;>rw [h0]<;>rfl
  symm
noncomputable def BT.row {α:Type} (o c k:α) (f:Nat->α):BT->List α
| .leaf i=>[f i]
| .node l r=>[o]++l.row o c k f++[c]++r.row o c k f++[k]
noncomputable def BT.dep:BT->Nat
| .leaf _=>0
| .node l r=>max l.dep r.dep+1
noncomputable def SR:List BT:=shapes.getD 0 []
noncomputable def SQ:List BT:=shapes.getD 1 []
theorem yX:∀ (four:Bool) (h:Nat),(four=false/\qU four h∈SR)\/(four=true/\qU four h∈SQ):=by iterate 2
 cases four with
 | false=>refine .inl ⟨rfl,?_⟩;unfold qU;rcases dU h with h0 | h0<;>rw [h0]<;>first | exact .head _ | exact .tail _ (.head _)
 | true=>refine .inr ⟨rfl,?_⟩;unfold qU;rcases zd (bR h (by decide:0<5)) with h0 | h0 | h0 | h0 | h0<;>rw [h0]<;>first | exact .head _ | exact .tail _ (.head _) | exact .tail _ (.tail _ (.head _)) | exact .tail _ (.tail _ (.tail _ (.head _))) | exact .tail _ (.tail _ (.tail _ (.tail _ (.head _))))
theorem t5:∀ {P:BT->Prop} (h:P (.node (.node (.leaf 0) (.leaf 1)) (.leaf 2))/\P (.node (.leaf 0) (.node (.leaf 1) (.leaf 2)))),∀ t∈SR,P t:=by iterate 2
 exact (fun t ht=>by
 simp only [SR,shapes,ly,aq,aO,or_false] at ht;rcases ht with rfl | rfl
 ·exact h.1
 ·exact h.2)
theorem tP:∀ {P:BT->Prop} (h:P (.node (.node (.node (.leaf 0) (.leaf 1)) (.leaf 2)) (.leaf 3))/\P (.node (.node (.leaf 0) (.node (.leaf 1) (.leaf 2))) (.leaf 3))/\P (.node (.node (.leaf 0) (.leaf 1)) (.node (.leaf 2) (.leaf 3)))/\
  P (.node (.leaf 0) (.node (.node (.leaf 1) (.leaf 2)) (.leaf 3)))/\P (.node (.leaf 0) (.node (.leaf 1) (.node (.leaf 2) (.leaf 3))))),∀ t∈SQ,P t:=by iterate 2
 exact (fun t ht=>by
 simp only [SQ,shapes,ly,List.getD_cons_succ,aq,aO,or_false] at ht;rcases ht with rfl | rfl | rfl | rfl | rfl
 ·exact h.1
 ·exact h.2.1
 ·exact h.2.2.1
 ·exact h.2.2.2.1
 ·exact h.2.2.2.2)
noncomputable def y9 (t:BT) (o c k:D) (lv:List D):List D:=t.row o c k fun i=>lv.getD i .none
theorem N1:∀ {m:Nat} {x y z o c k:D} {g:G},∀ t∈SR,ceCall P1 (m+90) "_law_row" [t.d,.lst [x,y,z],.lst [o,c,k]] g=some (.lst (y9 t o c k [x,y,z]),g):=by iterate 8 exact (t5 ⟨by rfl',by rfl'⟩)
theorem Oh:∀ {m:Nat} {x y z u o c k:D} {g:G},∀ t∈SQ,ceCall P1 (m+90) "_law_row" [t.d,.lst [x,y,z,u],.lst [o,c,k]] g=some (.lst (y9 t o c k [x,y,z,u]),g):=by iterate 9 exact (tP ⟨by rfl',by rfl',by rfl',by rfl',by rfl'⟩)
noncomputable def BT.words:BT->List (Int×List Nat)
| .leaf i=>[(1,[i])]
| .node l r=>(l.words.flatMap fun a=>r.words.map fun b=>(a.1 * b.1,a.2++b.2))++(r.words.flatMap fun b=>l.words.map fun a=>(-a.1 * b.1,b.2++a.2))
noncomputable def CV (cs:List Int) (w:Int×List Nat):D:= .tup [.int w.1,.lst (w.2.map fun i=> .int (cs.getD i 0))]
theorem Mc:∀ {m:Nat} {x y z:Int} {g:G},∀ t∈SR,ceCall P1 (m+90) "_law_words" [t.d,.lst [.int x,.int y,.int z]] g=some (.lst (t.words.map (CV [x,y,z])),g):=by iterate 5 exact (t5 ⟨by rfl',by rfl'⟩)
theorem Ll:∀ {m:Nat} {x y z u:Int} {g:G},∀ t∈SQ,ceCall P1 (m+90) "_law_words" [t.d,.lst [.int x,.int y,.int z,.int u]] g=some (.lst (t.words.map (CV [x,y,z,u])),g):=by iterate 6 exact (tP ⟨by rfl',by rfl',by rfl',by rfl',by rfl'⟩)
noncomputable def AF (ws:List (Int×Int)) (kv:List (Int×Int)):List (Int×Int):=ws.foldl (fun kv w=>put w.2 ((kv.lookup w.2).getD 0+w.1) kv) kv
theorem Gz:∀ (k v:Int),∀ kv:List (Int×Int),(put k v kv).length<=kv.length+1:=by iterate 2
 intro kv;induction kv with
 | nil=>(dsimp only [put];simp)
 | cons p r Qo=>
  dsimp only [put];split
  ·simp
  ·have:=Qo;simp;omega
theorem IO:pd P1 "_law_sums" =some ⟨["words"],fsc P1 "_law_sums",fb P1 "_law_sums"⟩:=by iterate 0 rfl'
noncomputable def NQ:Expr:=D3 (at_ (fb P1 "_law_sums") 1)
noncomputable def NY:List Stmt:=p7 (at_ (fb P1 "_law_sums") 1)
noncomputable def rq (w:Int×Int):D:= .tup [.int w.1,.int w.2]
theorem Ek:∀ {m:Nat} {g:G},∀ (ws:List (Int×Int)) (T:Qr) (kv:List (Int×Int)),kv.length+ws.length<1000->T.lookup ("sums" :Str)=none->∃ T',iterLoop (turnF P1 (m+40) (fsc P1 "_law_sums") NQ NY) (ws.map rq) ⟨T,[],some ("sums",.QH kv)⟩ g=some (⟨T',[],some ("sums",.QH (AF ws kv))⟩,g,none):=by iterate 2
 intro ws;induction ws with
 | nil=>intro T kv _ _;exact ⟨T,by first | rfl | (rw [aS];rfl)⟩
 | cons w ws Qo=>
  intro T kv hl hT;have SN:turnF P1 (m+40) (fsc P1 "_law_sums") NQ NY (rq w) ⟨T,[],some ("sums",.QH kv)⟩ g=some (⟨("number",.int w.2)::("sign",.int w.1)::T,[],some ("sums",.QH (put w.2 ((kv.lookup w.2).getD 0+w.1) kv))⟩,g,none):=by
   have h3:kv.length<lim:=by simp at hl;unfold lim;omega
   symm
  have:=Gz w.2 ((kv.lookup w.2).getD 0+w.1) kv;obtain ⟨T',e⟩:=Qo (("number",.int w.2)::("sign",.int w.1)::T) (put w.2 ((kv.lookup w.2).getD 0+w.1) kv) (by simp at hl;omega) (by symm);refine ⟨T',?_⟩;rw [aB,ol SN];exact e
theorem wX:∀ {m:Nat} {g:G} {ws:List (Int×Int)} (hl:ws.length<1000),ceCall P1 (m+50) "_law_sums" [.lst (ws.map rq)] g=some (.QH (AF ws []),g):=by iterate 4 obtain ⟨T',e⟩:=Ek (m:=m+5) (g:=g) ws [("words",.lst (ws.map rq))] [] (by simpa using hl) (by rfl');apply im (by rfl') IO (by rfl');symm
noncomputable def ca (row:List Nat):Nat:=py 64 0 row
theorem Lq:∀ (row:List Nat),row.length<=4->Et (row.map fun x:Nat=>(x:Int))=ca row
 | [],_=>rfl
 | [a],_=>by simp [Et,ca,py,dF]
 | [a,b],_=>by simp [Et,ca,py,dF]
 | [a,b,c],_=>by simp [Et,ca,py,dF];omega
 | [a,b,c,d],_=>by simp [Et,ca,py,dF];omega
 | _::_::_::_::_::_,h=>by simp at h
noncomputable def px (row:List Nat):D:= .lst (row.map fun x:Nat=>D.int x)
theorem sh:∀ {m:Nat} {row:List Nat} {g:G} (hl:row.length<=4) (hb:∀ x∈row,x<64),ceCall P1 (m+45) "_law_number" [px row] g=some (.int (ca row:Nat),g):=by iterate 5 have:=L3 (m:=m) (row:=row.map fun x:Nat=>(x:Int)) (g:=g) (by simpa using hl) (fun x hx=>by obtain ⟨y,hy,rfl⟩:=aH.mp hx;have:=hb y hy;omega);rw [Lq row hl] at this;rw [vC] at this;exact this
theorem sk:∀ {row:List Nat} (hb:∀ x∈row,x<64),ca row<64 ^ row.length:=by iterate 2 exact (Df row hb)
theorem CC:∀ {B:Nat} (hB:0<B),∀ (r:List Nat),(∀ x∈r,x<B)->tE r.length B (py B 0 r.reverse)=r:=by iterate 2
 intro r;induction r with
 | nil=>intro _;exact rfl
 | cons x r Qo=>
  intro h;have hx:=h x (by simp);have e:py B 0 (x::r).reverse=py B 0 r.reverse * B+x:=by simp [py]
  rw [e];show (py B 0 r.reverse * B+x) % B::tE r.length B ((py B 0 r.reverse * B+x) / B)=_;rw [bE,jO,gM hx,ia hB,eY hx,ib,Qo fun y hy=>h y (by simp [hy])]
theorem Gd:∀ {row:List Nat} {a:Nat} (h0:0<a) (hb:∀ x∈a::row,x<64),(dL (ca (a::row))+6-1) / 6=row.length+1:=by iterate 4
 have h1:=sk hb;have h2:64 ^ row.length<=ca (a::row):=by show _<=py 64 (0 * 64+a) row;rw [q8,fP,dM];exact bw (kI _ h0) (d9 _ _)
 have hp:0<64 ^ row.length:=dk (by decide);have Rt:ca (a::row)≠0:=by omega
 have e1:(64:Nat) ^ row.length=2 ^ (6 * row.length):=by rw [jN]
 have e2:(64:Nat) ^ (row.length+1)=2 ^ (6 * row.length+6):=by rw [show 6 * row.length+6=6 * (row.length+1) from by omega,jN]
 simp only [aI] at h1;rw [e2] at h1;rw [e1] at h2;have h3:6 * row.length<=nH (ca (a::row)):=(Nat.le_log2 Rt).mpr h2;have h4:nH (ca (a::row))<6 * row.length+6:=(iz Rt).mpr h1;unfold dL;rw [if_neg Rt];omega
theorem Ag:∀ {k a:Nat} {row:List Nat} {g:G} (hk:30<=k) (h0:0<a) (hb:∀ x∈a::row,x<64) (hl:row.length<=4),ceCall P1 (k+1) "_int2digits" [.int (ca (a::row):Nat),.int 6] g=some (px (a::row).reverse,g):=by iterate 8
 have h1:=sk hb;have h2:(64:Nat) ^ (row.length+1)<=64 ^ 5:=a8 (by decide) (by omega);have:=FY (k:=k) (a:=ca (a::row)) (n:=6) (g:=g) hk (by
  have h3:(64:Nat) ^ 5<2 ^ 60:=by decide
  exact dB h1 (bw h2 (fU h3))) (by decide) (by decide)
 rw [Gd h0 hb] at this;have e:=CC (B:=2 ^ 6) (by decide) (a::row).reverse (fun x hx=>hb x (dm.mp hx));rw [cu,ed] at e;rw [show tE (row.length+1) (2 ^ 6) (ca (a::row))=(a::row).reverse from e] at this;exact this
noncomputable def xH {α:Type}:List (Int×List α)->List α->List (Int×List α)
| ws,[]=>ws
| ws,y::r=>xH (ws.map (fun w=>(w.1,w.2++[y]))++ws.map fun w=>(-w.1,y::w.2)) r
noncomputable def yB {α:Type}:List α->List (Int×List α)
| []=>[]
| x::r=>xH [(1,[x])] r
noncomputable def J7:List (Int×Int)->Nat->List Int->List (Int×Int)
| ws,_,[]=>ws
| ws,k,y::r=>J7 (ws.map (fun w=>(w.1,w.2 * 64+y))++ws.map fun w=>(-w.1,y * 64 ^ k+w.2)) (k+1) r
theorem Kd:pd P1 "_law_from_left" =some ⟨["number"],fsc P1 "_law_from_left",fb P1 "_law_from_left"⟩:=by iterate 0 rfl'
theorem P2:∀ {m a b c:Nat} {g:G} (h0:0<a) (hb:∀ x∈[a,b,c],x<64),ceCall P1 (m+60) "_law_from_left" [.int (ca [a,b,c]:Nat)] g=some (.lst ((J7 [(1,(a:Int))] 1 [(b:Int),(c:Int)]).map rq),g):=by iterate 7
 apply im (by rfl') Kd (by rfl');symm
 ·exact Ag (by omega) h0 hb (by simp)
 symm
theorem PN:∀ {m a b c d:Nat} {g:G} (h0:0<a) (hb:∀ x∈[a,b,c,d],x<64),ceCall P1 (m+60) "_law_from_left" [.int (ca [a,b,c,d]:Nat)] g=some (.lst ((J7 [(1,(a:Int))] 1 [(b:Int),(c:Int),(d:Int)]).map rq),g):=by iterate 8
 apply im (by rfl') Kd (by rfl');symm
 ·exact Ag (by omega) h0 hb (by simp)
 symm
noncomputable def rH (w:Int×List Nat):Int×Int:=(w.1,(ca w.2:Nat))
theorem SA:(∀ ws k y r,J7 ws k (y::r)=J7 (ws.map (fun w=>(w.1,w.2 * 64+y))++ws.map fun w=>(-w.1,y * 64 ^ k+w.2)) (k+1) r)/\(∀ ws k,J7 ws k []=ws)/\(∀ (x:Nat) r,yB (x::r)=xH [(1,[x])] r)/\(∀ (ws:List (Int×List Nat)) y r,xH ws (y::r)=xH (ws.map (fun w=>(w.1,w.2++[y]))++ws.map fun w=>(-w.1,y::w.2)) r)/\∀ ws:List (Int×List Nat),xH ws []=ws:=by iterate 0 exact (⟨fun _ _ _ _=>rfl,fun _ _=>rfl,fun _ _=>rfl,fun _ _ _=>rfl,fun _=>rfl⟩)
theorem OK:∀ (a b c:Nat),J7 [(1,(a:Int))] 1 [(b:Int),(c:Int)]=(yB [a,b,c]).map rH:=by iterate 3 simp [SA,ca,py,rH];omega
theorem Pl:∀ (a b c d:Nat),J7 [(1,(a:Int))] 1 [(b:Int),(c:Int),(d:Int)]=(yB [a,b,c,d]).map rH:=by iterate 4 simp [SA,ca,py,rH];omega
theorem Jk:∀ {α:Type} {l:List α} (h:l.length=3),∃ a b c,l=[a,b,c]:=by iterate 3 obtain ⟨a,l,rfl⟩:=bT h;obtain ⟨b,l,rfl⟩:=bT (cJ h);obtain ⟨c,l,rfl⟩:=bT (cJ (cJ h));obtain rfl:=gB.mp (cJ (cJ (cJ h)));exact ⟨a,b,c,rfl⟩
theorem N0:∀ {m:Nat} {row:List Nat} {g:G} (hr:row.length=3\/row.length=4) (hb:∀ x∈row,0<x/\x<64),ceCall P1 (m+60) "_law_from_left" [.int (ca row:Nat)] g=some (.lst (((yB row).map rH).map rq),g):=by iterate 5
 rcases hr with hr | hr
 ·obtain ⟨a,b,c,rfl⟩:=Jk hr;rw [<-OK];exact P2 (hb a (by simp)).1 fun x hx=>(hb x hx).2
 ·obtain ⟨a,r,rfl⟩:=bT hr;obtain ⟨b,c,d,rfl⟩:=Jk (cJ hr);rw [<-Pl];exact PN (hb a (by simp)).1 fun x hx=>(hb x hx).2
noncomputable def Lt (L:Nat) (r:List Nat):Prop:=r.length=L/\∀ x∈r,0<x/\x<64
theorem Lt.lt:∀ {L:Nat} {r:List Nat} (h:Lt L r),∀ x∈r,x<64:=by iterate 3 exact (fun x hx=>(h.2 x hx).2)
theorem xu:∀ {L:Nat} {r s:List Nat} (hr:Lt L r) (hs:Lt L s) (h:ca r=ca s),r=s:=by iterate 6
 have e:∀ t:List Nat,Lt L t->tE L 64 (ca t)=t.reverse:=fun t ht=>by have:=CC (B:=64) (by decide) t.reverse fun x hx=>ht.lt x (dm.mp hx);rw [cu,ed,ht.1] at this;exact this
 have h1:=e r hr;rw [h,e s hs] at h1;exact (List.reverse_inj.mp h1).symm
noncomputable abbrev KV:=List (List Nat×Int)
noncomputable def kt (kv:KV):List (Int×Int):=kv.map fun p=>(((ca p.1:Nat):Int),p.2)
noncomputable def rj (k:List Nat) (v:Int):KV->KV
| []=>[(k,v)]
| p::r=>if p.1=k then (k,v)::r else p::rj k v r
noncomputable def se (ws:List (Int×List Nat)) (kv:KV):KV:=ws.foldl (fun kv w=>rj w.2 ((kv.lookup w.2).getD 0+w.1) kv) kv
noncomputable def KL (L:Nat) (kv:KV):Prop:=∀ p∈kv,Lt L p.1
theorem pz:∀ {L:Nat} {k:List Nat} (hk:Lt L k),∀ {kv:KV},KL L kv->(kt kv).lookup ((ca k:Nat):Int)=kv.lookup k:=by iterate 3
 intro kv;induction kv with
 | nil=>intro _;exact rfl
 | cons p kv Qo=>
  intro h;have ih:=Qo fun q hq=>h q (by simp [hq]);have hp:=h p (by simp);show cG _ ((((ca p.1:Nat):Int),p.2)::kt kv)=cG k ((p.1,p.2)::kv);rw [aY,aY,ih];by_cases e:k=p.1
  ·subst e;simp
  ·have e2:((ca k:Nat):Int)≠((ca p.1:Nat):Int):=fun q=>e (xu hk hp (by exact_mod_cast q));have q1:(((ca k:Nat):Int)==((ca p.1:Nat):Int))=false:=by simpa using e2
   have q2:(k==p.1)=false:=by simpa using e
   rw [q1,q2]
theorem GJ:∀ {L:Nat} {k:List Nat} {v:Int} (hk:Lt L k),∀ {kv:KV},KL L kv->put ((ca k:Nat):Int) v (kt kv)=kt (rj k v kv):=by iterate 4
 intro kv;induction kv with
 | nil=>intro _;exact rfl
 | cons p kv Qo=>
  intro h;have ih:=Qo fun q hq=>h q (by simp [hq]);have hp:=h p (by simp);show put _ v ((((ca p.1:Nat):Int),p.2)::kt kv)=kt (if p.1=k then (k,v)::kv else p::rj k v kv);dsimp only [put];by_cases e:p.1=k
  ·subst e;simp [kt]
  ·have e2:((ca p.1:Nat):Int)≠((ca k:Nat):Int):=fun q=>e (xu hp hk (by exact_mod_cast q));rw [if_neg e2,if_neg e,ih];rfl
theorem KL.put:∀ {L:Nat} {k:List Nat} {v:Int} (hk:Lt L k),∀ {kv:KV},KL L kv->KL L (rj k v kv):=by iterate 4
 intro kv;induction kv with
 | nil=>intro _ p hp;dsimp only [rj] at hp;simp at hp;subst hp;exact hk
 | cons q kv Qo=>
  intro h p hp;dsimp only [rj] at hp;split at hp
  ·rcases aq.mp hp with rfl | hp
   ·exact hk
   ·exact h p (by simp [hp])
  ·rcases aq.mp hp with rfl | hp
   ·exact h p (by simp)
   ·exact Qo (fun q hq=>h q (by simp [hq])) p hp
theorem wt:∀ {L:Nat},∀ {ws:List (Int×List Nat)} {kv:KV},(∀ w∈ws,Lt L w.2)->KL L kv->AF (ws.map rH) (kt kv)=kt (se ws kv)/\KL L (se ws kv):=by iterate 1 intro ws;induction ws with | nil=>intro kv _ h;exact ⟨rfl,h⟩ | cons w ws Qo=>intro kv hw h;have hk:=hw w (by simp);have:=Qo (kv:=rj w.2 ((kv.lookup w.2).getD 0+w.1) kv) (fun x hx=>hw x (by simp [hx])) (KL.put hk h);refine ⟨?_,this.2⟩;show AF (ws.map rH) (put (rH w).2 (((kt kv).lookup (rH w).2).getD 0+w.1) (kt kv))=kt (se ws (rj w.2 ((kv.lookup w.2).getD 0+w.1) kv));rw [<-this.1,<-GJ hk h,<-pz hk h];rfl
theorem DR:∀ {k:List Nat} {v:Int},∀ {kv:KV},(kv.map (·.1)).Nodup->((rj k v kv).map (·.1)).Nodup/\∀ x,x∈(rj k v kv).map (·.1)->x=k\/x∈kv.map (·.1):=by iterate 2
 intro kv;induction kv with
 | nil=>intro _;exact ⟨by (dsimp only [rj];simp),fun x hx=>by (dsimp only [rj] at hx;simp at hx);exact .inl hx⟩
 | cons p kv Qo=>
  intro h;simp only [aB,cB] at h;obtain ⟨i1,i2⟩:=Qo h.2;dsimp only [rj];split
  ·rename_i e;refine ⟨?_,fun x hx=>?_⟩
   ·rw [aB,cB];exact ⟨e▸h.1,h.2⟩
   ·simp only [aB,aq] at hx ⊢;rcases hx with hx | hx
    ·exact .inl hx
    ·exact .inr (.inr hx)
  ·rename_i e;refine ⟨?_,fun x hx=>?_⟩
   ·rw [aB,cB];refine ⟨fun hm=>?_,i1⟩;rcases i2 _ hm with q | q
    ·exact e q
    ·exact h.1 q
   ·simp only [aB,aq] at hx ⊢;rcases hx with hx | hx
    ·exact .inr (.inl hx)
    ·rcases i2 x hx with q | q
     ·exact .inl q
     ·exact .inr (.inr q)
theorem xn:∀ {ws:List (Int×List Nat)} {kv:KV},(kv.map (·.1)).Nodup->((se ws kv).map (·.1)).Nodup:=by iterate 0 intro ws;induction ws with | nil=>intro _ h;exact h | cons w ws Qo=>intro kv h;exact Qo (DR h).1
theorem rY:∀ {kv:KV},(kv.map (·.1)).Nodup->∀ {p:List Nat×Int},p∈kv->kv.lookup p.1=some p.2:=by iterate 1
 induction kv with
 | nil=>intro _ p h;cases h
 | cons q kv ih=>
  intro h p hp;simp only [aB,cB] at h;rw [show q::kv=(q.1,q.2)::kv from rfl,aY];rcases aq.mp hp with rfl | hp
  ·simp
  ·have:(p.1==q.1)=false:=by
    simp only [beq_eq_false_iff_ne];intro e;exact h.1 (e▸cM hp)
   rw [this];exact ih h.2 hp
theorem GL:∀ {a:Nat} {r:List Nat} (hb:∀ x∈r,x<64),ca (a::r) / 64 ^ r.length=a:=by iterate 3 show py 64 (0 * 64+a) r / _=_;rw [q8,fP,dM,bE,ia (dk (by decide)),eY (Df r hb),ib]
theorem Lt.WH:∀ {L:Nat} {r:List Nat} (h:Lt L r) (hL:L<=4),ca r<2 ^ 30:=by iterate 4
 have h1:=sk h.lt;rw [h.1] at h1;have h2:(64:Nat) ^ L<=64 ^ 4:=a8 (by decide) hL;have h3:(64:Nat) ^ 4<2 ^ 30:=by decide
 omega
theorem Fi:∀ {m L a:Nat} {r:List Nat} {g:G} (h:Lt (L+1) (a::r)) (hL:L<=3),∃ q,ceCall P1 (m+130) "int_divmod" [.int (ca (a::r):Nat),.int ((64:Int) ^ L)] g=some (.tup [.int a,.int q],g):=by iterate 7
 have h2:(64:Nat) ^ L<=64 ^ 3:=a8 (by decide) hL;have h3:(64:Nat) ^ 3<2 ^ 30:=by decide
 have:=zW (m:=m+20) (a:=ca (a::r)) (b:=64 ^ L) (g:=g) (h.WH (by omega)) (by omega) (dk (by decide));have e:ca (a::r) / 64 ^ L=a:=by have:=GL (a:=a) (r:=r) fun x hx=>h.lt x (by simp [hx]);have hl:=h.1;simp at hl;rw [hl] at this;exact this
 rw [e] at this;rw [eD] at this;exact ⟨_,this⟩
theorem Ma:pd P1 "_law_led" =some ⟨["sums","codes","letter"],fsc P1 "_law_led",fb P1 "_law_led"⟩:=by iterate 0 rfl'
noncomputable def N8:Expr:=D3 (at_ (fb P1 "_law_led") 1)
noncomputable def M6:List Stmt:=p7 (at_ (fb P1 "_law_led") 1)
noncomputable def sr (kv:KV) (x:Nat):List (Int×List Nat):=kv.flatMap fun p=>if p.1.head? =some x then (yB p.1).map fun w=>(w.1 * p.2,w.2) else []
noncomputable def wD (w:Int×List Nat):D:=rq (rH w)
theorem FB:∀ (l:List (Int×List Nat)),(l.map rH).map rq=l.map wD:=by iterate 1 simp [wD]
theorem BK:∀ {xs ys:List D} (h:(xs++ys).length<=lim),ownMeth "extend" xs [.lst ys]=some (xs++ys):=by iterate 3
 have:ownMeth "extend" xs [.lst ys]=if (xs++ys).length<=lim then some (xs++ys) else none:=by rfl'
 rw [this,if_pos h]
theorem rU:∀ {QC:List (Int×Int)} {k v:Int} (h:QC.lookup k=some v),subD P1 (.QH QC) (.int k)=some (.int v):=by iterate 4 show ((oN (D.int k)).bind fun k=>(QC.lookup k).bind fun v=>some (D.int v))=_;exact f8 (a:=k) rfl (f8 (a:=v) h rfl)
theorem Ju:∀ {a:Int} (h: -1000<=a/\a<=1000),lw a=true:=by iterate 2 exact (xh h.1 h.2)
theorem GG:∀ {m L:Nat} {g:G} {kv:KV} {cs:List Nat} {x:Nat} {T:Qr} {acc:List D} {p:List Nat×Int} (hL:L=2\/L=3) (hk:KL (L+1) kv) (hn:(kv.map (·.1)).Nodup) (hc:cs.length=L+1) (hp:p∈kv) (hv: -1000<=p.2/\p.2<=1000) (h1:T.At "sums" (.QH (kt kv))) (h2:T.At "codes" (px cs)) (h3:T.At "letter" (.int x)) (h4:T.lookup ("led" :Str)=none) (Ui:acc.length<=1000) (Tj:(yB p.1).length<=1000),turnF P1 (m+150) (fsc P1 "_law_led") N8 M6 (.int (ca p.1:Nat)) ⟨T,[],some ("led",.lst acc)⟩ g=some (⟨("number",.int (ca p.1:Nat))::T,[],some ("led",.lst (acc++(if p.1.head? =some x then (yB p.1).map fun w=>(w.1 * p.2,w.2) else []).map wD))⟩,g,none):=by iterate 21
 have hr:=hk p hp;obtain ⟨a,r,e⟩:∃ a r,p.1=a::r:=by cases h:p.1 with | nil=>have:=hr.1;rw [h] at this;simp at this | cons a r=>exact ⟨a,r,rfl⟩
 rw [e] at hr;obtain ⟨q,hq⟩:=Fi (m:=m+15) (g:=g) hr (by omega);have TJ:(kt kv).lookup ((ca p.1:Nat):Int)=some p.2:=by rw [pz (e▸hr) hk];exact rY hn hp
 rw [e] at TJ ⊢;rw [e] at Tj;rw [mF];have VT:binop .Pow (.int 64) (.int (((cs.map fun x:Nat=>D.int x).length:Int)-1))=some (.int ((64:Int) ^ L)):=by rw [show ((cs.map fun x:Nat=>D.int x).length:Int)-1=(L:Int) from by simp [hc]];have:=zX (b:=64) (k:=(L:Int)) rfl (by omega) (by omega);rwa [aP] at this
 by_cases hx:a=x
 ·subst hx;have c1:(((a:Nat):Int)==((a:Nat):Int))=true:=by simp
  have hf:=N0 (m:=m+83) (row:=a::r) (g:=g) (by rcases hL with rfl | rfl<;>simp at hr hc ⊢ <;>have:=hr.1<;>simp at this<;>omega) hr.2;rw [FB] at hf;simp only [aK,aM] at hf;rw [if_pos rfl,b7];symm
  ·refine qF (emb:=wD) (F:=fun w=>wD (w.1 * p.2,w.2)) fun w hw QU=>?_;symm
   ·exact rU TJ
   ·exact w9 (by rw [Ju hv];rfl)
   symm
  ·simp at Tj ⊢;unfold lim;omega
  symm
  ·exact BK (by simp at Tj ⊢;unfold lim;omega)
  symm
 ·have c1:(((a:Nat):Int)==((x:Nat):Int))=false:=by simp;omega
  rw [if_neg (by simpa using hx),iU,aS];symm
theorem Fq:∀ {m L:Nat} {g:G} {kv:KV} {cs:List Nat} {x:Nat} (hL:L=2\/L=3) (hk:KL (L+1) kv) (hn:(kv.map (·.1)).Nodup) (hc:cs.length=L+1) (hv:∀ p∈kv, -1000<=p.2/\p.2<=1000) (Tj:∀ p∈kv,(yB p.1).length<=8),∀ (rest:KV) (T:Qr) (acc:List D),
  (∀ p∈rest,p∈kv)->T.At "sums" (.QH (kt kv))->T.At "codes" (px cs)->T.At "letter" (.int x)->T.lookup ("led" :Str)=none->acc.length+8 * rest.length<=1000->
  ∃ T',iterLoop (turnF P1 (m+150) (fsc P1 "_law_led") N8 M6) (rest.map fun p=>D.int (ca p.1:Nat)) ⟨T,[],some ("led",.lst acc)⟩ g=some (⟨T',[],some ("led",.lst (acc++(sr rest x).map wD))⟩,g,none)/\
   T'.At "sums" (.QH (kt kv))/\T'.At "codes" (px cs)/\T'.At "letter" (.int x)/\T'.lookup ("led" :Str)=none:=by iterate 12
 intro rest;induction rest with
 | nil=>intro T acc _ h1 h2 h3 h4 _;exact ⟨T,by first | rfl | (rw [aS];rfl) | (show some _=some _;simp;done) | (show some _=some _;simp [sr]),h1,h2,h3,h4⟩
 | cons p rest Qo=>
  intro T acc hs h1 h2 h3 h4 hl;have hp:=hs p (by simp);have hf:=Tj p hp;have ht:=GG (m:=m) (g:=g) (T:=T) (acc:=acc) (x:=x) hL hk hn hc hp (hv p hp) h1 h2 h3 h4 (by simp at hl;omega) (by omega);have hlen:(if p.1.head? =some x then (yB p.1).map fun w=>(w.1 * p.2,w.2) else []).length<=8:=by
   split
   ·simpa using hf
   ·simp
  obtain ⟨T',e1,e2⟩:=Qo (("number",.int (ca p.1:Nat))::T) (acc++(if p.1.head? =some x then (yB p.1).map fun w=>(w.1 * p.2,w.2) else []).map wD) (fun q hq=>hs q (by simp [hq])) (by symm) (by symm) (by symm) (by symm) (by simp only [aw,aG,aI] at hl ⊢;omega);refine ⟨T',?_,e2⟩;rw [aB,ol ht];rw [e1];simp [sr,iO]
noncomputable def tC (cs:List Nat) (x:Nat):Int:=((cs.filter fun y=>y==x).length:Nat)
theorem Gw:∀ {cs:List Nat} {x:Nat} {g:G},methD "count" (px cs) [.int x] g=some (.int (tC cs x),g):=by iterate 3
 have:methD "count" (px cs) [.int x] g=(tg (cs.map fun x:Nat=>D.int x)).map fun l=>(.int ((l.filter (· ==(x:Int))).length:Nat),g):=by rfl'
 rw [this,<-vC,uM,cY];have:((cs.map fun x:Nat=>(x:Int)).filter (· ==(x:Int))).length=(cs.filter fun y=>y==x).length:=by rw [mH,aG];congr 2;funext y;show ((y:Int)==(x:Int))=_;rw [c8];simp;omega
 rw [this];rfl
noncomputable def pM (kv:KV) (x:Nat):KV:=se (sr kv x) []
noncomputable def DP (o:Int) (p:List Nat×Int):Option Int:=if p.2=0 then none else some (o * p.2)
noncomputable def ML (p:List Nat×Int):Option Int:=if p.2=0 then none else some p.2
noncomputable def En (kv:KV) (o:Int):KV:=kv.filterMap fun p=>(DP o p).map fun v=>(p.1,v)
noncomputable def MH (kv:KV):KV:=kv.filterMap fun p=>(ML p).map fun v=>(p.1,v)
noncomputable def zm (a b:KV):Bool:=a.length==b.length&&a.all fun p=>b.lookup p.1==some p.2
noncomputable def xJ (kv:KV) (cs:List Nat) (x:Nat):Bool:=zm (MH (pM kv x)) (En kv (tC cs x))&&kv.all fun p=>aL (((pM kv x).lookup p.1).getD 0) (tC cs x)==p.2&&aQ (((pM kv x).lookup p.1).getD 0) (tC cs x)==0
theorem J3:∀ {P:Nat->Prop},∀ (r:List Nat) (ws:List (Int×List Nat)) (n:Nat),(∀ w∈ws,w.2.length=n/\∀ y∈w.2,P y)->(∀ y∈r,P y)->∀ w∈xH ws r,w.2.length=n+r.length/\∀ y∈w.2,P y:=by iterate 1
 intro r;induction r with
 | nil=>intro ws n h _ w hw;exact h w hw
 | cons y r Qo=>
  intro ws n h hr w hw;have:=Qo _ (n+1) (fun w hw=>?_) (fun z hz=>hr z (by simp [hz])) w hw
  ·refine ⟨?_,this.2⟩;rw [this.1,aI];omega
  ·rcases bF.mp hw with q | q<;>obtain ⟨v,hv,rfl⟩:=aH.mp q
   ·obtain ⟨h1,h2⟩:=h v hv;refine ⟨by simp [h1],fun z hz=>?_⟩;rcases bF.mp hz with z1 | z1
    ·exact h2 z z1
    ·simp at z1;subst z1;exact hr _ (by simp)
   ·obtain ⟨h1,h2⟩:=h v hv;refine ⟨by simp [h1],fun z hz=>?_⟩;rcases aq.mp hz with rfl | z1
    ·exact hr _ (by simp)
    ·exact h2 z z1
theorem Mb:∀ {L:Nat} {r:List Nat} (h:Lt L r),∀ w∈yB r,Lt L w.2:=by iterate 3 cases r with | nil=>intro w hw;simp [yB] at hw | cons x r=>intro w hw;have:=J3 (P:=fun y=>0<y/\y<64) r [(1,[x])] 1 (fun w hw=>by simp at hw;subst hw;exact ⟨rfl,fun y hy=>by simp at hy;subst hy;exact h.2 _ (by simp)⟩) (fun y hy=>h.2 y (by simp [hy])) w hw;exact ⟨by rw [this.1,<-h.1,aI];omega,this.2⟩
theorem Dk:∀ {L:Nat} {kv:KV} {x:Nat} (h:KL L kv),∀ w∈sr kv x,Lt L w.2:=by iterate 4
 exact (fun w hw=>by
 obtain ⟨p,hp,hw⟩:=iZ.mp hw;split at hw
 ·obtain ⟨v,hv,rfl⟩:=aH.mp hw;exact Mb (h p hp) v hv
 ·simp at hw)
theorem A8:∀ {x:Nat},∀ {kv:KV},(∀ p∈kv,(yB p.1).length<=8)->(sr kv x).length<=8 * kv.length:=by iterate 1
 intro kv;induction kv with
 | nil=>intro _;simp [sr]
 | cons p kv Qo=>
  intro h;have ih:=Qo fun q hq=>h q (by simp [hq]);have:=h p (by simp);have e:sr (p::kv) x=(if p.1.head? =some x then (yB p.1).map fun w=>(w.1 * p.2,w.2) else [])++sr kv x:=by simp [sr]
  have hlen:(if p.1.head? =some x then (yB p.1).map fun w=>(w.1 * p.2,w.2) else []).length<=8:=by
   split
   ·simpa using this
   ·simp
  rw [e,aw,aI];omega
theorem Gh:∀ (k:List Nat) (v:Int),∀ kv:KV,(rj k v kv).length<=kv.length+1:=by iterate 2
 intro kv;induction kv with
 | nil=>(dsimp only [rj];simp)
 | cons p r Qo=>
  dsimp only [rj];split
  ·simp
  ·have:=Qo;simp;omega
theorem wn:∀ (ws:List (Int×List Nat)) (kv:KV),(se ws kv).length<=kv.length+ws.length:=by iterate 0 intro ws;induction ws with | nil=>intro kv;simp [se] | cons w ws Qo=>intro kv;have h1:=Qo (rj w.2 ((kv.lookup w.2).getD 0+w.1) kv);have h2:=Gh w.2 ((kv.lookup w.2).getD 0+w.1) kv;have e:se (w::ws) kv=se ws (rj w.2 ((kv.lookup w.2).getD 0+w.1) kv):=rfl;rw [e,aI];omega
theorem IA:∀ {k v:Int},∀ {acc:List (Int×Int)},(∀ q∈acc,q.1≠k)->put k v acc=acc++[(k,v)]:=by iterate 2 intro acc;induction acc with | nil=>intro _;exact rfl | cons q acc Qo=>intro h;dsimp only [put];rw [if_neg (h q (by simp)),Qo fun z hz=>h z (by simp [hz])];rfl
theorem yd:∀ {L:Nat} {g:G} {step:D->List (Int×Int)->G->Option (List (Int×Int)×G×Option D)} (f:List Nat×Int->Option Int),∀ (rest VJ:KV),KL L (VJ++rest)->((VJ++rest).map (·.1)).Nodup->
  (∀ p∈rest,∀ acc,step (.int (ca p.1:Nat)) acc g=some ((match f p with | some v=>put (ca p.1:Nat) v acc | none=>acc),g,none))->
  iterLoop step (rest.map fun p=>D.int (ca p.1:Nat)) (kt (VJ.filterMap fun p=>(f p).map fun v=>(p.1,v))) g=some (kt ((VJ++rest).filterMap fun p=>(f p).map fun v=>(p.1,v)),g,none):=by iterate 4
 intro rest;induction rest with
 | nil=>intro VJ _ _ _;first | rfl | (rw [aS];rfl) | (show some _=some _;simp;done) | (show some _=some _;simp [sr])
 | cons p rest Qo=>
  intro VJ hk hn h;rw [aB,ol (h p (by simp) _)];have ih:=Qo (VJ++[p]) (by simpa using hk) (by simpa using hn) fun q hq=>h q (by simp [hq]);have e:(match f p with | some v=>put (ca p.1:Nat) v (kt (VJ.filterMap fun p=>(f p).map fun v=>(p.1,v))) | none=>kt (VJ.filterMap fun p=>(f p).map fun v=>(p.1,v)))=kt ((VJ++[p]).filterMap fun p=>(f p).map fun v=>(p.1,v)):=by
   cases hf:f p with
   | none=>simp [hf]
   | some v=>
    dsimp only;rw [IA]
    ·simp [hf,kt]
    ·intro q hq;obtain ⟨z,hz,rfl⟩:=aH.mp hq;obtain ⟨y,hy,hy2⟩:=ey.mp hz;obtain ⟨v',_,rfl⟩:=ba.mp hy2;intro e;have h1:=hk y (by simp [hy]);have h2:=hk p (by simp);have e:((ca y.1:Nat):Int)=((ca p.1:Nat):Int):=e;have h3:=xu h1 h2 (by exact_mod_cast e);simp only [dG,aB] at hn;have:=gn.mp hn;exact this.2.2 y.1 (cM hy) p.1 (by simp) h3
  rw [e,ih];simp
theorem Al:∀ {L:Nat} {a b:KV} (ha:KL L a) (hb:KL L b),tH (kt a) (kt b)=zm a b:=by iterate 5
 unfold tH zm;have e1:(kt a).length=a.length:=by simp [kt]
 have e2:(kt b).length=b.length:=by simp [kt]
 rw [e1,e2];congr 1;show (a.map _).all _=_;rw [iV];apply c8.mpr;simp only [aj,Function.comp_apply];constructor<;>intro h p hp<;>have:=h p hp<;>rw [pz (ha p hp) hb] at * <;>exact this
theorem KL.fm:∀ {L:Nat} {kv:KV} {f:List Nat×Int->Option Int} (h:KL L kv),KL L (kv.filterMap fun p=>(f p).map fun v=>(p.1,v)):=by iterate 4
 exact (fun q hq=>by
 obtain ⟨y,hy,hy2⟩:=ey.mp hq;obtain ⟨v',_,rfl⟩:=ba.mp hy2;exact h y hy)
theorem Hz:∀ {m L:Nat} {g:G} {kv:KV} {cs:List Nat} {x:Nat} (hL:L=2\/L=3) (hk:KL (L+1) kv) (hn:(kv.map (·.1)).Nodup) (hc:cs.length=L+1) (hv:∀ p∈kv, -1000<=p.2/\p.2<=1000) (Tj:∀ p∈kv,(yB p.1).length<=8) (hkl:kv.length<=8) (hx:x∈cs) (S5:xJ kv cs x=true),ceCall P1 (m+160) "_law_led" [.QH (kt kv),px cs,.int x] g=some (.bool true,g):=by iterate 15
 obtain ⟨T',e1,f1,f2,f3,f4⟩:=Fq (m:=m+5) (g:=g) (x:=x) hL hk hn hc hv Tj kv [("sums",.QH (kt kv)),("codes",px cs),("letter",.int x)] [] (fun p hp=>hp) (by rfl') (by rfl') (by rfl') (by rfl') (by simp;omega);have ei:(kv.map fun p=>D.int (ca p.1:Nat))=(kt kv).map fun p=>D.int p.1:=by simp [kt]
 rw [ei,a9] at e1;apply im (by rfl') Ma (by rfl');have aeD:ceCall P1 (m+154) "_law_sums" [.lst ((sr kv x).map wD)] g=some (.QH (kt (pM kv x)),g):=by have h1:=wX (m:=m+104) (g:=g) (ws:=(sr kv x).map rH) (by have:=A8 (x:=x) Tj;rw [aG];omega);have h2:=(wt (L:=L+1) (ws:=sr kv x) (kv:=[]) (Dk hk) (fun p hp=>by cases hp)).1;rw [FB] at h1;rw [show (kt []:List (Int×Int))=[] from rfl] at h2;rw [h2] at h1;simp only [aK,aM] at h1;exact h1
 have afa:methD "count" (.lst (cs.map fun x:Nat=>D.int x)) [.int x] g=some (.int (tC cs x),g):=Gw;have TJ:∀ p∈kv,(kt kv).lookup ((ca p.1:Nat):Int)=some p.2:=fun p hp=>by rw [pz (hk p hp) hk];exact rY hn hp
 have ZI:tC cs x=((cs.filter fun y=>y==x).length:Nat):=rfl;have ho1:0<(cs.filter fun y=>y==x).length:=List.length_pos_iff_exists_mem.mpr ⟨x,List.mem_filter.mpr ⟨hx,by simp⟩⟩;have ho2:(cs.filter fun y=>y==x).length<=4:=bw (dH _ _) (by omega);have hos:lw (tC cs x)=true:=xh (by rw [ZI];omega) (by rw [ZI];omega);symm
 ·rw [<-ei];refine yd (DP (tC cs x)) kv [] (by simpa using hk) (by simpa using hn) fun p hp acc=>?_;have hl:=TJ p hp;by_cases hz:p.2=0
  ·have c1:(!(p.2==(0:Int)))=false:=by rw [hz];rfl
   simp only [DP,hz,if_true];symm
   ·exact rU hl
   rfl
  ·have c1:(!(p.2==(0:Int)))=true:=by simp [hz]
   simp only [DP,hz,if_false];symm
   ·exact rU hl
   ·rfl
   ·exact rU hl
   exact w9 (by rw [hos,fM])
 ·have h1:(kv.filterMap fun p=>(DP (tC cs x) p).map fun v=>(p.1,v)).length<=kv.length:=j9 _ _;simp only [a9,kt,aG];unfold lim;omega
 have VQ:KL (L+1) (pM kv x):=(wt (L:=L+1) (ws:=sr kv x) (kv:=[]) (Dk hk) (fun p hp=>by cases hp)).2;have htn:((pM kv x).map (·.1)).Nodup:=xn (ws:=sr kv x) (kv:=[]) (by simp);have et:((pM kv x).map fun p=>D.int (ca p.1:Nat))=(kt (pM kv x)).map fun p=>D.int p.1:=by simp [kt]
 have WQ:∀ p∈pM kv x,(kt (pM kv x)).lookup ((ca p.1:Nat):Int)=some p.2:=fun p hp=>by rw [pz (VQ p hp) VQ];exact rY htn hp
 unfold xJ at S5;rw [ai] at S5;have acL:(!tH (kt (MH (pM kv x))) (kt (En kv (tC cs x))))=false:=by rw [Al (a:=MH (pM kv x)) (b:=En kv (tC cs x)) (L:=L+1) (KL.fm VQ) (KL.fm hk),S5.1];rfl
 symm
 ·rw [<-et];refine yd ML (pM kv x) [] (by simpa using VQ) (by simpa using htn) fun p hp acc=>?_;have hl:=WQ p hp;by_cases hz:p.2=0
  ·have c1:(!((p.2==(0:Int))==true))=false:=by rw [hz];rfl
   simp only [ML,hz,if_true];symm
   ·exact rU hl
   run_tac Wk.ce [``zU]
   rfl
  ·have c1:(!((p.2==(0:Int))==true))=true:=by simp [hz]
   simp only [ML,hz,if_false];symm
   ·exact rU hl
   run_tac Wk.ce [``zU]
   ·rfl
   exact rU hl
 ·have h1:((pM kv x).filterMap fun p=>(ML p).map fun v=>(p.1,v)).length<=(pM kv x).length:=j9 _ _;have h2:=wn (sr kv x) [];have h3:=A8 (x:=x) Tj;simp only [a9,kt,aG];simp only [hG,dM] at h2;unfold lim;unfold pM at h1 ⊢;omega
 symm
 ·refine EG fun d hd=>?_;obtain ⟨p,hp,rfl⟩:=aH.mp (ei▸hd);have hl:=TJ p hp;have hq:=aj.mp S5.2 p hp;simp only [ai,beq_iff_eq] at hq;have hg:((kt (pM kv x)).lookup ((ca p.1:Nat):Int)).getD 0=((pM kv x).lookup p.1).getD 0:=by rw [pz (hk p hp) VQ]
  have hdm:ceCall P1 (m+146) "int_divmod" [.int (((kt (pM kv x)).lookup ((ca p.1:Nat):Int)).getD 0),.int (tC cs x)] g=some (.tup [.int p.2,.int 0],g):=by
   rw [hg];have e:=Int.mul_fdiv_add_fmod (((pM kv x).lookup p.1).getD 0) (tC cs x);rw [hq.1,hq.2] at e;have hv':=hv p hp;have hb1: -4000<=tC cs x * p.2/\tC cs x * p.2<=4000:=by
    rw [ZI];constructor
    ·calc (-4000:Int)<=4 * (-1000):=by decide
      _<=((cs.filter fun y=>y==x).length:Int) * p.2:=by
       have h5:((cs.filter fun y=>y==x).length:Int)<=4:=by omega
       rcases oH 0 p.2 with z | z
       ·have:=ir (show (0:Int)<=((cs.filter fun y=>y==x).length:Nat) from az _) z;omega
       ·have:=Int.mul_le_mul_of_nonpos_right h5 z;omega
    ·rcases oH 0 p.2 with z | z
     ·have h5:((cs.filter fun y=>y==x).length:Int)<=4:=by omega
      have:=Int.mul_le_mul_of_nonneg_right h5 z;omega
     ·have:=Int.mul_nonpos_of_nonneg_of_nonpos (show (0:Int)<=((cs.filter fun y=>y==x).length:Nat) from az _) z;omega
   have:=B8 (m:=m+16) (a:=((pM kv x).lookup p.1).getD 0) (b:=(cs.filter fun y=>y==x).length) (g:=g) (by omega) (by omega) (by omega) ho1;rw [<-ZI,hq.1,hq.2] at this;exact this
  have afb:cmp P1 .NotEq (.tup [.int p.2,.int 0]) (.tup [.int p.2,.int 0])=some false:=by
   have:cmp P1 .NotEq (.tup [.int p.2,.int 0]) (.tup [.int p.2,.int 0])=some (!((p.2==p.2)&&(((0:Int)==0)&&true))):=by rfl'
   rw [this];simp
  symm
  ·exact rU hl
  symm
 symm
theorem AD:∀ {g:G} {a b c:MO},(g++[a,b]).set g.length c=g++[c,b]:=by iterate 4 rw [g0 _ _ (bN _),iW];rfl
theorem Au:∀ {g:G} {a b c:MO},(g++[a,b]).set (g.length+1) c=g++[a,c]:=by iterate 4 rw [g0 _ _ (d9 _ 1),eC];rfl
theorem Am:∀ {g:G} {a b:MO},(g++[a,b])[g.length]? =some a:=by iterate 3 simp
theorem Bl:∀ {g:G} {a b:MO},(g++[a,b])[g.length+1]? =some b:=by iterate 3 rw [aT (d9 _ 1),eC];rfl
noncomputable def lx (pb:List Nat):MO:= .lex 1 none (pb.map fun x:Nat=>D.int x)
theorem B6:∀ {g:G} {j:Nat} {ln:Int} {src:Option Nat} {pb:List D} {d:D} (h:g[j]? =some (.lex ln src pb)) (hl:pb.length<lim),methD "push_token" (.loc j) [d] g=some (.none,g.set j (.lex ln src (pb++[d]))):=by iterate 8
 have:methD "push_token" (.loc j) [d] g=KC d g j:=by rfl'
 rw [this];exact f8 h (f8 rfl (if_pos hl))
theorem Hv:∀ {g:G} {j:Nat} {ln:Int} {src:Option Nat} {pb:List D} {d:D} (h:g[j]? =some (.lex ln src (d::pb))),methD "get_token" (.loc j) [] g=some (d,g.set j (.lex ln src pb)):=by iterate 7
 have:methD "get_token" (.loc j) [] g=w0 g j:=by rfl'
 rw [this];exact f8 h (f8 rfl rfl)
theorem uh:∀ {g:G} {d:D},(qo g d==qo g d)=true:=by iterate 2 simp
theorem Je:pd P1 "_law_laid" =some ⟨["front","rear","sums"],fsc P1 "_law_laid",fb P1 "_law_laid"⟩:=by iterate 0 rfl'
noncomputable def Kx:Expr:=D3 (at_ (fb P1 "_law_laid") 1)
noncomputable def Gi:List Stmt:=p7 (at_ (fb P1 "_law_laid") 1)
noncomputable def wR:Stmt:=at_ Gi 1
theorem Nz:∀ {m:Nat} {b:MO} {g:G},∀ (ls:List Nat) (T:Qr) (pb:List Nat),T.At "one" (.loc g.length)->pb.length+ls.length<=100->
  ∃ T',iterLoop (turnF P1 (m+50) (fsc P1 "_law_laid") (D3 (at_ (p7 wR) 1)) (p7 (at_ (p7 wR) 1))) (ls.map fun x:Nat=>D.int x) ⟨T,[],none⟩ (g++[lx pb,b])=some (⟨T',[],none⟩,g++[lx (pb++ls),b],none)/\∀ y:Str,y≠"letter" ->T'.lookup y=T.lookup y:=by iterate 3
 intro ls;induction ls with
 | nil=>intro T pb _ _;exact ⟨T,by first | rfl | (rw [aS];rfl),fun _ _=>rfl⟩
 | cons x ls Qo=>
  intro T pb h1 hl;have hm:methD "push_token" (.loc g.length) [.int x] (g++[lx pb,b])=some (.none,g++[lx (pb++[x]),b]):=by have:=B6 (g:=g++[lx pb,b]) (j:=g.length) (ln:=1) (src:=none) (pb:=pb.map fun x:Nat=>D.int x) (d:= .int x) Am (by simp at hl;simp [lim];omega);rw [this,AD];simp [lx]
  have hk:=uh (g:=g++[lx pb,b]) (d:= .loc g.length);have hs:turnF P1 (m+50) (fsc P1 "_law_laid") (D3 (at_ (p7 wR) 1)) (p7 (at_ (p7 wR) 1)) (.int x) ⟨T,[],none⟩ (g++[lx pb,b])=some (⟨("letter",.int x)::T,[],none⟩,g++[lx (pb++[x]),b],none):=by symm
  obtain ⟨T',e1,e2⟩:=Qo (("letter",.int x)::T) (pb++[x]) (by symm) (by simp at hl ⊢;omega);refine ⟨T',?_,fun y hy=>?_⟩
  ·rw [aB,ol hs];rw [e1];simp
  ·rw [e2 y hy];have:(y==("letter" :Str))=false:=by simpa using hy
   rw [aY,this]
theorem NH:∀ {m:Nat} {b:MO} {g:G},∀ (ls:List Nat) (T:Qr) (pb:List Nat),T.At "two" (.loc (g.length+1))->pb.length+ls.length<=100->
  ∃ T',iterLoop (turnF P1 (m+50) (fsc P1 "_law_laid") (D3 (at_ (p7 wR) 2)) (p7 (at_ (p7 wR) 2))) (ls.map fun x:Nat=>D.int x) ⟨T,[],none⟩ (g++[b,lx pb])=some (⟨T',[],none⟩,g++[b,lx (pb++ls)],none)/\∀ y:Str,y≠"letter" ->T'.lookup y=T.lookup y:=by iterate 3
 intro ls;induction ls with
 | nil=>intro T pb _ _;exact ⟨T,by first | rfl | (rw [aS];rfl),fun _ _=>rfl⟩
 | cons x ls Qo=>
  intro T pb h1 hl;have hm:methD "push_token" (.loc (g.length+1)) [.int x] (g++[b,lx pb])=some (.none,g++[b,lx (pb++[x])]):=by have:=B6 (g:=g++[b,lx pb]) (j:=g.length+1) (ln:=1) (src:=none) (pb:=pb.map fun x:Nat=>D.int x) (d:= .int x) Bl (by simp at hl;simp [lim];omega);rw [this,Au];simp [lx]
  have hk:=uh (g:=g++[b,lx pb]) (d:= .loc (g.length+1));have hs:turnF P1 (m+50) (fsc P1 "_law_laid") (D3 (at_ (p7 wR) 2)) (p7 (at_ (p7 wR) 2)) (.int x) ⟨T,[],none⟩ (g++[b,lx pb])=some (⟨("letter",.int x)::T,[],none⟩,g++[b,lx (pb++[x])],none):=by symm
  obtain ⟨T',e1,e2⟩:=Qo (("letter",.int x)::T) (pb++[x]) (by symm) (by simp at hl ⊢;omega);refine ⟨T',?_,fun y hy=>?_⟩
  ·rw [aB,ol hs];rw [e1];simp
  ·rw [e2 y hy];have:(y==("letter" :Str))=false:=by simpa using hy
   rw [aY,this]
noncomputable def pF:List Bool->List Nat->List Nat->List Nat
| [],_,_=>[]
| b::t,f,r=>bif b then (match f with
  | []=>[]
  | a::f=>a::pF t f r) else (match r with
  | []=>[]
  | a::r=>a::pF t f r)
noncomputable def bD (b:Bool):D:= .int (if b then 1 else 0)
noncomputable def wo (t:List Bool):Nat:=(t.filter id).length
theorem sB:∀ {b:Bool} {ts:List Bool},wo (b::ts)=(if b then 1 else 0)+wo ts:=by iterate 2 cases b<;>simp [wo];omega
theorem HZ:∀ {step:D->List D->G->Option (List D×G×Option D)} {g:G} (hT:∀ (a:Nat) (f r:List Nat) (acc:List D),step (bD true) acc (g++[lx (a::f),lx r])=some (acc++[.int a],g++[lx f,lx r],none)) (hF:∀ (a:Nat) (f r:List Nat) (acc:List D),step (bD false) acc (g++[lx f,lx (a::r)])=some (acc++[.int a],g++[lx f,lx r],none)),∀ (ts:List Bool) (f r:List Nat) (acc:List D),wo ts=f.length->ts.length=f.length+r.length->iterLoop step (ts.map bD) acc (g++[lx f,lx r])=some (acc++(pF ts f r).map fun x:Nat=>D.int x,g++[lx [],lx []],none):=by iterate 4
 intro ts;induction ts with
 | nil=>intro f r acc h1 h2;obtain rfl:f=[]:=gB.mp (by simp at h2;omega);obtain rfl:r=[]:=gB.mp (by simp at h2;omega);show some (acc,g++[lx [],lx []],none)=some (acc++[],g++[lx [],lx []],none);rw [aS]
 | cons RA ts Qo=>
  cases RA with
  | true=>intro f r acc h1 h2;rw [sB] at h1;cases f with | nil=>simp at h1 | cons a f=>rw [aB,ol (hT _ _ _ _)];rw [Qo f r _ (by simp at h1;omega) (by simp at h2;omega),bK];rfl
  | false=>intro f r acc h1 h2;rw [sB] at h1;have hc:wo ts<=ts.length:=dH _ _;cases r with | nil=>simp at h1 h2;omega | cons a r=>rw [aB,ol (hF _ _ _ _)];rw [Qo f r _ (by simp at h1;omega) (by simp at h2;omega),bK];rfl
theorem DX:∀ (ts:List Bool) (f r:List Nat),wo ts=f.length->ts.length=f.length+r.length->(pF ts f r).length=ts.length/\∀ x∈pF ts f r,x∈f\/x∈r:=by iterate 0
 intro ts;induction ts with
 | nil=>intro f r _ _;(dsimp only [pF];simp)
 | cons RA ts Qo=>
  cases RA with
  | true=>
   intro f r h1 h2;rw [sB] at h1;cases f with
   | nil=>simp at h1
   | cons a f=>
    obtain ⟨e1,e2⟩:=Qo f r (by simp at h1;omega) (by simp at h2;omega);refine ⟨by (dsimp only [pF];simp [e1]),fun x hx=>?_⟩;(dsimp only [pF] at hx ⊢;simp only [cond_true,cond_false,aq] at hx ⊢);rcases hx with rfl | hx
    ·exact .inl (.inl rfl)
    ·exact (e2 x hx).imp .inr id
  | false=>
   intro f r h1 h2;rw [sB] at h1;have hc:wo ts<=ts.length:=dH _ _;cases r with
   | nil=>simp at h1 h2;omega
   | cons a r=>
    obtain ⟨e1,e2⟩:=Qo f r (by simp at h1;omega) (by simp at h2;omega);refine ⟨by (dsimp only [pF];simp [e1]),fun x hx=>?_⟩;(dsimp only [pF] at hx ⊢;simp only [cond_true,cond_false,aq] at hx ⊢);rcases hx with rfl | hx
    ·exact .inr (.inl rfl)
    ·exact (e2 x hx).imp id .inr
noncomputable def qf (c n:Nat):List Bool:=(aN n).map fun k=>c / 2 ^ k % 2==1
theorem HL:∀ {c k:Nat},binop .RShift (.int c) (.int k)=some (.int (c / 2 ^ k:Nat)):=by iterate 2
 have h:binop .RShift (.int c) (.int k)=some (.int (aL c (2 ^ (k:Int).toNat))):=by show (if (0:Int)<=(k:Int) then some (D.int (aL (c:Int) (2 ^ (k:Int).toNat))) else none)=_;exact if_pos (az k)
 rw [h,aP,aV _ (jc (lO (by decide)))];rfl
theorem Dr:∀ {c:Nat},binop .BitAnd (.int c) (.int 1)=some (bD (c % 2==1)):=by iterate 1
 have h:binop .BitAnd (.int c) (.int 1)=some (.int (aQ c 2)):=by show (if (0:Int)<=(c:Int)/\(1:Int)=1 then some (D.int (aQ (c:Int) 2)) else none)=_;exact if_pos ⟨az c,rfl⟩
 rw [h,aU _ (by decide)];rcases dU c with h | h
 ·have:(c:Int) % 2=0:=by omega
  rw [this,h];rfl
 ·have:(c:Int) % 2=1:=by omega
  rw [this,h];rfl
theorem FP:∀ ts:List Bool,(ts.map fun b=>if b then (1:Int) else 0).sum=wo ts:=by iterate 0 intro ts;induction ts with | nil=>exact rfl | cons b ts Qo=>rw [aB,kj,Qo,sB];cases b<;>simp
noncomputable def vN (kv:KV) (front rear:List Nat) (c:Nat):Int:=if wo (qf c (front.length+rear.length))=front.length then (kv.lookup (pF (qf c (front.length+rear.length)) front rear)).getD 0 else 0
theorem Bg:∀ {k:Nat} {g:G},ceCall P1 (k+31) "_netrclex" [.none] g=some (.loc g.length,g++[lx []]):=by iterate 2 exact (qM (h:=rO) (by rfl') (by omega) (by rfl))
theorem EK:∀ {k:Nat} {g:G},ceCall P1 (k+31) "_netrclex" [.none] (g++[lx []])=some (.loc (g.length+1),g++[lx [],lx []]):=by iterate 2 rw [Bg];simp
theorem JG:∀ {g:G} {a:Nat} {f r:List Nat},methD "get_token" (.loc g.length) [] (g++[lx (a::f),lx r])=some (.int a,g++[lx f,lx r]):=by iterate 4 have:=Hv (g:=g++[lx (a::f),lx r]) (j:=g.length) (ln:=1) (src:=none) (pb:=f.map fun x:Nat=>D.int x) (d:= .int a) Am;rw [this,AD];rfl
theorem Im:∀ {g:G} {a:Nat} {f r:List Nat},methD "get_token" (.loc (g.length+1)) [] (g++[lx f,lx (a::r)])=some (.int a,g++[lx f,lx r]):=by iterate 4 have:=Hv (g:=g++[lx f,lx (a::r)]) (j:=g.length+1) (ln:=1) (src:=none) (pb:=r.map fun x:Nat=>D.int x) (d:= .int a) Bl;rw [this,Au];rfl
noncomputable def tD (c n:Nat):List D:=(aN n).map fun k=>bD (c / 2 ^ k % 2==1)
theorem yT:∀ (c n:Nat),tD c n=(qf c n).map bD:=by iterate 2 simp [tD,qf]
theorem yJ:∀ {c n:Nat} {g:G},uf [.lst (tD c n)] g=some (.int (wo (qf c n):Nat),g):=by iterate 3
 have e:tD c n=((qf c n).map fun b=>if b then (1:Int) else 0).map D.int:=by rw [yT];simp [bD]
 rw [e,Cd,FP];intro x hx;obtain ⟨b,_,rfl⟩:=aH.mp hx;cases b<;>decide
theorem EL:∀ {m L c:Nat} {g:G} {T:Qr} {front rear:List Nat} {kv:KV} {VL:Int} (hk:KL L kv) (hl:front.length+rear.length=L) (hL:L<=4) (hf:∀ x∈front,0<x/\x<64) (hr:∀ x∈rear,0<x/\x<64) (h1:T.At "front" (px front)) (h2:T.At "rear" (px rear)) (h3:T.At "sums" (.QH (kt kv))) (h4:T.At "total" (.int VL)),∃ T' g',turnF P1 (m+100) (fsc P1 "_law_laid") Kx Gi (.int c) ⟨T,[],none⟩ g=some (⟨T',[],none⟩,g++g',none)/\T'.At "front" (px front)/\T'.At "rear" (px rear)/\T'.At "sums" (.QH (kt kv))/\T'.At "total" (.int (VL+vN kv front rear c)):=by iterate 18
 have hlen:((front.map fun x:Nat=>D.int x)++(rear.map fun x:Nat=>D.int x)).length=L:=by simp [hl]
 have YV:binop .Add (.lst (front.map fun x:Nat=>D.int x)) (.lst (rear.map fun x:Nat=>D.int x))=some (.lst ((front.map fun x:Nat=>D.int x)++(rear.map fun x:Nat=>D.int x))):=by show EX (_++_)=_;exact if_pos (by rw [hlen];unfold lim;omega)
 have aaV:itemsOf (.rng 0 (((front.map fun x:Nat=>D.int x)++(rear.map fun x:Nat=>D.int x)).length:Int))=some ((aN L).map fun i:Nat=>D.int i):=by rw [hlen];exact qe (by unfold lim;omega)
 by_cases hc:wo (qf c L)=front.length
 ·have PA:(((wo (qf c L):Nat):Int)==((front.map fun x:Nat=>D.int x).length:Int))=true:=by simp [hc]
  have hv:vN kv front rear c=(kv.lookup (pF (qf c L) front rear)).getD 0:=by unfold vN;rw [hl,if_pos hc]
  obtain ⟨T1,e1,f1⟩:=Nz (m:=m+43) (b:=lx []) (g:=g) front (("two",.loc (g.length+1))::("one",.loc g.length)::("turns",.lst (tD c L))::("choice",.int c)::T) [] (by rfl') (by simp;omega);obtain ⟨T2,e2,f2⟩:=NH (m:=m+42) (b:=lx front) (g:=g) rear T1 [] (by rw [Qr.At,f1 _ (by decide)];rfl') (by simp;omega);have q1:T1.At "rear" (px rear):=by rw [Qr.At,f1 _ (by decide)];symm
  have key:∀ y:Str,y≠"letter" ->T2.lookup y=cG y (("two",.loc (g.length+1))::("one",.loc g.length)::("turns",.lst (tD c L))::("choice",.int c)::T):=fun y hy=>by rw [f2 y hy,f1 y hy]
  have k1:T2.At "one" (.loc g.length):=by rw [Qr.At,key _ (by decide)];symm
  have k2:T2.At "two" (.loc (g.length+1)):=by rw [Qr.At,key _ (by decide)];symm
  have k3:T2.At "turns" (.lst (tD c L)):=by rw [Qr.At,key _ (by decide)];symm
  have k4:T2.At "sums" (.QH (kt kv)):=by rw [Qr.At,key _ (by decide)];symm
  have k5:T2.At "total" (.int VL):=by rw [Qr.At,key _ (by decide)];symm
  have k6:T2.At "front" (px front):=by rw [Qr.At,key _ (by decide)];symm
  have k7:T2.At "rear" (px rear):=by rw [Qr.At,key _ (by decide)];symm
  have hml:=DX (qf c L) front rear hc (by simp [qf,hl]);have ZJ:Lt L (pF (qf c L) front rear):=⟨by rw [hml.1];simp [qf],fun x hx=>(hml.2 x hx).elim (hf x) (hr x)⟩
  have hlk:(kt kv).lookup ((ca (pF (qf c L) front rear):Nat):Int)=kv.lookup (pF (qf c L) front rear):=pz ZJ hk;rw [hv,<-hlk];refine ⟨("total",.int (VL+((kt kv).lookup ((ca (pF (qf c L) front rear):Nat):Int)).getD 0))::T2,[lx [],lx []],?_,?_,?_,?_,?_⟩
  ·symm
   ·refine qF (F:=fun k=>bD (c / 2 ^ k % 2==1)) fun k hk acc=>?_;symm
    ·exact HL
    exact Dr
   ·simp;unfold lim;omega
   symm
   ·exact qM (h:=uf) (by rfl') (by omega) yJ
   run_tac Wk.ce [``EK,``Bg]
   ·rw [yT];refine HZ (g:=g) (fun a f r acc=>?_) (fun a f r acc=>?_) (qf c L) front rear [] hc (by simp [qf,hl])
    ·have hg:=JG (g:=g) (a:=a) (f:=f) (r:=r);have hkk:=uh (g:=g++[lx (a::f),lx r]) (d:= .loc g.length);symm
    ·have hg:=Im (g:=g) (a:=a) (f:=f) (r:=r);have hkk:=uh (g:=g++[lx f,lx (a::r)]) (d:= .loc (g.length+1));symm
   ·simp only [a9,aG,ZJ.1];unfold lim;omega
   symm
   ·rw [a9];exact sh (m:=m+44) (row:=pF (qf c L) front rear) (by rw [ZJ.1];exact hL) ZJ.lt
   symm
  all_goals symm
 ·have Rt:(((wo (qf c L):Nat):Int)==((front.map fun x:Nat=>D.int x).length:Int))=false:=by
   simp;omega
  have hv:vN kv front rear c=0:=by unfold vN;rw [hl,if_neg hc]
  rw [hv,lb];refine ⟨("turns",.lst (tD c L))::("choice",.int c)::T,[],?_,?_,?_,?_,?_⟩
  ·rw [aS];symm
   ·refine qF (F:=fun k=>bD (c / 2 ^ k % 2==1)) fun k hk acc=>?_;symm
    ·exact HL
    exact Dr
   ·simp;unfold lim;omega
   symm
   ·exact qM (h:=uf) (by rfl') (by omega) yJ
   symm
  all_goals symm
theorem EE:∀ {m L:Nat} {front rear:List Nat} {kv:KV} (hk:KL L kv) (hl:front.length+rear.length=L) (hL:L<=4) (hf:∀ x∈front,0<x/\x<64) (hr:∀ x∈rear,0<x/\x<64),∀ (cs:List Nat) (T:Qr) (g:G) (VL:Int),
  T.At "front" (px front)->T.At "rear" (px rear)->T.At "sums" (.QH (kt kv))->T.At "total" (.int VL)->
  ∃ T' g',iterLoop (turnF P1 (m+100) (fsc P1 "_law_laid") Kx Gi) (cs.map fun x:Nat=>D.int x) ⟨T,[],none⟩ g=some (⟨T',[],none⟩,g++g',none)/\T'.At "total" (.int (VL+(cs.map (vN kv front rear)).sum)):=by iterate 10
 intro cs;induction cs with
 | nil=>intro T g VL _ _ _ h4;exact ⟨T,[],by first | rfl | (rw [aS];rfl),by simpa using h4⟩
 | cons c cs Qo=>
  intro T g VL h1 h2 h3 h4;obtain ⟨T1,g1,e1,q1,q2,q3,q4⟩:=EL (m:=m) (c:=c) (g:=g) hk hl hL hf hr h1 h2 h3 h4;obtain ⟨T2,g2,e2,q5⟩:=Qo T1 (g++g1) _ q1 q2 q3 q4;refine ⟨T2,g1++g2,?_,?_⟩
  ·rw [aB,ol e1];rw [e2,bK]
  ·rw [aB,kj,<-kG];exact q5
noncomputable def uc (kv:KV) (front rear:List Nat):Int:=((aN (2 ^ (front.length+rear.length))).map (vN kv front rear)).sum
theorem Dh:∀ {m L:Nat} {g:G} {front rear:List Nat} {kv:KV} (hk:KL L kv) (hl:front.length+rear.length=L) (hL:L<=4) (hf:∀ x∈front,0<x/\x<64) (hr:∀ x∈rear,0<x/\x<64),∃ g',ceCall P1 (m+110) "_law_laid" [px front,px rear,.QH (kt kv)] g=some (.int (uc kv front rear),g++g'):=by iterate 11
 obtain ⟨T',g',e1,q1⟩:=EE (m:=m+5) hk hl hL hf hr (aN (2 ^ L)) [("total",.int 0),("front",px front),("rear",px rear),("sums",.QH (kt kv))] g 0 (by rfl') (by rfl') (by rfl') (by rfl');rw [oE] at q1;have hlen:((front.map fun x:Nat=>D.int x)++(rear.map fun x:Nat=>D.int x)).length=L:=by simp [hl]
 have YV:binop .Add (.lst (front.map fun x:Nat=>D.int x)) (.lst (rear.map fun x:Nat=>D.int x))=some (.lst ((front.map fun x:Nat=>D.int x)++(rear.map fun x:Nat=>D.int x))):=by show EX (_++_)=_;exact if_pos (by rw [hlen];unfold lim;omega)
 have VT:binop .Pow (.int 2) (.int (((front.map fun x:Nat=>D.int x)++(rear.map fun x:Nat=>D.int x)).length:Int))=some (.int ((2 ^ L:Nat):Int)):=by rw [hlen];have:=zX (b:=2) (k:=(L:Int)) rfl (by omega) (by omega);rw [aP] at this;rw [eD];exact this
 have hp:2 ^ L<=16:=a8 (by decide) hL;have aaV:itemsOf (.rng 0 ((2 ^ L:Nat):Int))=some ((aN (2 ^ L)).map fun i:Nat=>D.int i):=qe (by unfold lim;omega);refine ⟨g',?_⟩;have hS:uc kv front rear=((aN (2 ^ L)).map (vN kv front rear)).sum:=by unfold uc;rw [hl]
 rw [hS];apply im (by rfl') Je (by rfl');symm
theorem CD:pd P1 "_law_parted" =some ⟨["sign","row","cut","sums"],fsc P1 "_law_parted",fb P1 "_law_parted"⟩:=by iterate 0 rfl'
theorem CX:∀ {F R:List Nat},ca (F++R)=ca F * 64 ^ R.length+ca R:=by iterate 2 unfold ca py;rw [iN];exact q8 R _
theorem I6:∀ {a:Nat} {r:List Nat} (h:0<a),0<ca (a::r):=by iterate 3 show 0<py 64 (0 * 64+a) r;rw [q8,fP,dM];exact dB (Nat.mul_pos h (dk (by decide))) (d9 _ _)
theorem wK:∀ {F R:List Nat},slice ((F++R).map fun x:Nat=>D.int x) none (some (F.length:Int))=F.map fun x:Nat=>D.int x:=by iterate 2
 have h:¬ ((F.length:Int)<0):=by omega
 simp [slice,o7,oU,pN,h]
theorem yj:∀ {F R:List Nat},slice ((F++R).map fun x:Nat=>D.int x) (some (F.length:Int)) none=R.map fun x:Nat=>D.int x:=by iterate 2
 have h:¬ ((F.length:Int)<0):=by omega
 have e:(F.length+R.length)=((F++R).map fun x:Nat=>D.int x).length:=by simp
 simp only [slice,o7,oU,pN,h,if_false];rw [iY,aP,dN (by simp),dG];have:(F.map fun x:Nat=>D.int x).length=F.length:=by simp
 rw [<-this,mX]
theorem AC:∀ {F R:List Nat} (h:R.length<=4),binop .Pow (.int 64) (.int ((((F++R).map fun x:Nat=>D.int x).length:Int)-(F.length:Int)))=some (.int ((64 ^ R.length:Nat):Int)):=by iterate 3
 have e:(((F++R).map fun x:Nat=>D.int x).length:Int)-(F.length:Int)=(R.length:Int):=by simp;omega
 rw [e];have:=zX (b:=64) (k:=(R.length:Int)) rfl (by omega) (by omega);rw [aP] at this;rw [eD];exact this
theorem vP:∀ {k:Nat} {F:List Nat} {g:G} (hk:30<=k) (h0:F≠[]) (hl:F.length<=4) (hb:∀ x∈F,0<x/\x<64),ceCall P1 (k+1) "_int2digits" [.int (ca F:Nat),.int 6] g=some (.lst (F.reverse.map fun x:Nat=>D.int x),g):=by iterate 7 match F,h0,hl,hb with | a::r,_,hl,hb=>exact Ag hk (hb a (by simp)).1 (fun x hx=>(hb x hx).2) (by simp at hl;omega)
theorem mul_one:∀ {n:Nat},binop .Mult (.int 1) (.int (n:Int))=some (.int n):=by iterate 1 rw [w9 (by rw [show lw (1:Int)=true from rfl,fM]),Int.one_mul]
theorem Af:∀ {a b:Int},cmp P1 .NotEq (.tup [.int a,.int b]) (.tup [.int a,.int b])=some false:=by iterate 2
 have:cmp P1 .NotEq (.tup [.int a,.int b]) (.tup [.int a,.int b])=some (!((a==a)&&((b==b)&&true))):=by rfl'
 rw [this];simp
theorem uo:∀ {F R:List Nat} (hr:∀ x∈R,x<64),ca (F++R) / 64 ^ R.length=ca F/\ca (F++R) % 64 ^ R.length=ca R:=by iterate 3 have h:=sk hr;rw [CX,bE];exact ⟨by rw [ia (dk (by decide)),eY h,ib],by rw [jO,gM h]⟩
theorem Es:∀ {m:Nat} {F R:List Nat} {g:G} (hl:F.length+R.length<=4) (hF:∀ x∈F,x<64) (hr:∀ x∈R,x<64),ceCall P1 (m+130) "int_divmod" [.int (ca (F++R):Nat),.int ((64 ^ R.length:Nat):Int)] g=some (.tup [.int (ca F:Nat),.int (ca R:Nat)],g):=by iterate 7
 have h1:ca (F++R)<2 ^ 30:=by
  have h2:=sk (row:=F++R) fun x hx=>(bF.mp hx).elim (hF x) (hr x);have h3:(64:Nat) ^ (F++R).length<=64 ^ 4:=a8 (by decide) (by simpa using hl);have h4:(64:Nat) ^ 4<2 ^ 30:=by decide
  omega
 have h5:(64:Nat) ^ R.length<2 ^ 30:=by
  have h3:(64:Nat) ^ R.length<=64 ^ 4:=a8 (by decide) (by omega);have h4:(64:Nat) ^ 4<2 ^ 30:=by decide
  omega
 have:=zW (m:=m+20) (a:=ca (F++R)) (b:=64 ^ R.length) (g:=g) h1 h5 (dk (by decide));rw [(uo hr).1,(uo hr).2] at this;exact this
theorem Eo:∀ {m:Nat} {F R:List Nat} {g:G} (hl:F.length+R.length<=4) (hF:∀ x∈F,x<64) (hr:∀ x∈R,x<64),ceCall P1 (m+150) "int_divmod" [.int (-((ca (F++R):Nat):Int)),.int (-((64 ^ R.length:Nat):Int))] g=some (.tup [.int (ca F:Nat),.int (-((ca R:Nat):Int))],g):=by iterate 7
 have h1:ca (F++R)<2 ^ 30:=by
  have h2:=sk (row:=F++R) fun x hx=>(bF.mp hx).elim (hF x) (hr x);have h3:(64:Nat) ^ (F++R).length<=64 ^ 4:=a8 (by decide) (by simpa using hl);have h4:(64:Nat) ^ 4<2 ^ 30:=by decide
  omega
 have h5:(64:Nat) ^ R.length<2 ^ 30:=by
  have h3:(64:Nat) ^ R.length<=64 ^ 4:=a8 (by decide) (by omega);have h4:(64:Nat) ^ 4<2 ^ 30:=by decide
  omega
 have:=CG (m:=m) (a:= -((ca (F++R):Nat):Int)) (b:=64 ^ R.length) (g:=g) (by omega) (by omega) h5 (dk (by decide));rw [Int.neg_neg,aV _ (az _),aU _ (az _),<-Int.natCast_ediv,<-Int.natCast_emod,(uo hr).1,(uo hr).2] at this;exact this
theorem Gs:∀ {R:List Nat} (h:R≠[]) (hr:∀ x∈R,0<x/\x<64),0<ca R:=by iterate 3 match R,h,hr with | b::r,_,hr=>exact I6 (hr b (by simp)).1
theorem F1:∀ {n:Nat},binop .Mult (.int (-1)) (.int (n:Int))=some (.int (-(n:Int))):=by iterate 1 rw [w9 (by rw [show lw (-1:Int)=true from rfl,fM]),Int.neg_mul,Int.one_mul]
theorem ur:∀ {F R:List Nat} (hr:∀ x∈R,x<64) (hp:0<ca R),aL (-((ca (F++R):Nat):Int)) ((64 ^ R.length:Nat):Int)= -((ca F:Nat):Int)-1/\aQ (-((ca (F++R):Nat):Int)) ((64 ^ R.length:Nat):Int)=((64 ^ R.length:Nat):Int)-(ca R:Nat):=by iterate 4
 have h1:=sk hr;have h2:((ca (F++R):Nat):Int)=((64 ^ R.length:Nat):Int) * (ca F:Nat)+(ca R:Nat):=by rw [CX,fy,da,eQ]
 generalize 64 ^ R.length=b at *;generalize ca F=f at *;generalize ca R=r at *;generalize ca (F++R)=n at *;rw [aV _ (az _),aU _ (az _)];have:=lD (a:= -(n:Int)) (b:=b) (r:=(b:Int)-r) (q:= -(f:Int)-1) (by omega);have h4:(b:Int) * (-(f:Int)-1)= -((b:Int) * f)-b:=by rw [Int.mul_sub,Int.mul_neg,Int.mul_one]
 exact this.mpr ⟨by rw [h4];omega,by omega,by omega⟩
theorem wJ:∀ {F R:List Nat} (hl:F.length+R.length<=4) (hF:∀ x∈F,x<64) (hr:∀ x∈R,x<64),ca (F++R)<2 ^ 30/\64 ^ R.length<2 ^ 30:=by iterate 5
 have h2:=sk (row:=F++R) fun x hx=>(bF.mp hx).elim (hF x) (hr x);have h3:(64:Nat) ^ (F++R).length<=64 ^ 4:=a8 (by decide) (by simpa using hl);have h5:(64:Nat) ^ R.length<=64 ^ 4:=a8 (by decide) (by omega);have h4:(64:Nat) ^ 4<2 ^ 30:=by decide
 omega
theorem EB:∀ {m:Nat} {F R:List Nat} {g:G} (hl:F.length+R.length<=4) (hF:∀ x∈F,x<64) (hr:∀ x∈R,x<64) (hp:0<ca R),ceCall P1 (m+130) "int_divmod" [.int (-((ca (F++R):Nat):Int)),.int ((64 ^ R.length:Nat):Int)] g=some (.tup [.int (-((ca F:Nat):Int)-1),.int (((64 ^ R.length:Nat):Int)-(ca R:Nat))],g):=by iterate 8 obtain ⟨h1,h5⟩:=wJ hl hF hr;have:=B8 (m:=m) (a:= -((ca (F++R):Nat):Int)) (b:=64 ^ R.length) (g:=g) (by omega) (by omega) h5 (dk (by decide));rw [(ur hr hp).1,(ur hr hp).2] at this;exact this
theorem DM:∀ {m:Nat} {F R:List Nat} {g:G} (hl:F.length+R.length<=4) (hF:∀ x∈F,x<64) (hr:∀ x∈R,x<64) (hp:0<ca R),ceCall P1 (m+150) "int_divmod" [.int (-(-((ca (F++R):Nat):Int))),.int (-((64 ^ R.length:Nat):Int))] g=some (.tup [.int (-((ca F:Nat):Int)-1),.int (-(((64 ^ R.length:Nat):Int)-(ca R:Nat)))],g):=by iterate 8 obtain ⟨h1,h5⟩:=wJ hl hF hr;have:=CG (m:=m) (a:= -(-((ca (F++R):Nat):Int))) (b:=64 ^ R.length) (g:=g) (by omega) (by omega) h5 (dk (by decide));rw [Int.neg_neg (-((ca (F++R):Nat):Int)),(ur hr hp).1,(ur hr hp).2] at this;exact this
theorem GD:∀ {m L:Nat} {g:G} {F R:List Nat} {kv:KV} (hk:KL L kv) (hl:F.length+R.length=L) (hL:L<=4) (hf:∀ x∈F,0<x/\x<64) (hr:∀ x∈R,0<x/\x<64) (V6:F≠[]) (Xu:R≠[]) (hz:uc kv F R=0),∃ QZ g',ceSs P1 (m+169) (fsc P1 "_law_parted") ⟨([("sign",.int 1),("row",px (F++R)),("cut",.int F.length),("sums",.QH (kt kv))]:Qr),[],none⟩ (fb P1 "_law_parted") g=some (.ret (.bool true),QZ,g++g'):=by iterate 14
 obtain ⟨g',SO⟩:=Dh (m:=m+48) (g:=g) hk hl hL hf hr;rw [hz] at SO;simp only [aK,aM,px] at SO;have hi1:=vP (k:=m+154) (F:=F) (g:=g) (by omega) V6 (by omega) hf;have YI:=vP (k:=m+153) (F:=R) (g:=g) (by omega) Xu (by omega) hr;simp only [aK,aM] at hi1 YI;apply eK;refine ⟨g',?_⟩;symm
 ·exact AC (by omega)
 have Yx:=sh (m:=m+118) (row:=F) (g:=g) (by omega) fun x hx=>(hf x hx).2;have VU:=sh (m:=m+117) (row:=R) (g:=g) (by omega) fun x hx=>(hr x hx).2;simp only [aK,aM,px] at Yx VU;have hn3:=sh (m:=m+117) (row:=F++R) (g:=g) (by simp;omega) fun x hx=>(bF.mp hx).elim (fun h=>(hf x h).2) (fun h=>(hr x h).2);simp only [aK,aM,px] at hn3;have YQ:=Es (m:=m+29) (g:=g) (F:=F) (R:=R) (by omega) (fun x hx=>(hf x hx).2) fun x hx=>(hr x hx).2;have hd2:=Eo (m:=m+8) (g:=g) (F:=F) (R:=R) (by omega) (fun x hx=>(hf x hx).2) fun x hx=>(hr x hx).2;have ZT:=Af (a:=(ca F:Nat)) (b:=(ca R:Nat));have V2:=Af (a:=(ca F:Nat)) (b:= -((ca R:Nat):Int));simp only [aK,aM] at YQ hd2;symm
 ·rw [wK];with_reducible exact Yx
 symm
 ·rw [yj];with_reducible exact VU
 symm
 ·with_reducible exact mul_one
 symm
 ·rw [<-dq,cu,<-dq,cu];with_reducible exact SO
 run_tac Wk.ce [``zU]
theorem Dy:∀ {m L:Nat} {g:G} {F R:List Nat} {kv:KV} (hk:KL L kv) (hl:F.length+R.length=L) (hL:L<=4) (hf:∀ x∈F,0<x/\x<64) (hr:∀ x∈R,0<x/\x<64) (V6:F≠[]) (Xu:R≠[]) (hz:uc kv F R=0),∃ QZ g',ceSs P1 (m+169) (fsc P1 "_law_parted") ⟨([("sign",.int (-1)),("row",px (F++R)),("cut",.int F.length),("sums",.QH (kt kv))]:Qr),[],none⟩ (fb P1 "_law_parted") g=some (.ret (.bool true),QZ,g++g'):=by iterate 14
 obtain ⟨g',SO⟩:=Dh (m:=m+48) (g:=g) hk hl hL hf hr;rw [hz] at SO;simp only [aK,aM,px] at SO;have hi1:=vP (k:=m+154) (F:=F) (g:=g) (by omega) V6 (by omega) hf;have YI:=vP (k:=m+153) (F:=R) (g:=g) (by omega) Xu (by omega) hr;simp only [aK,aM] at hi1 YI;apply eK;refine ⟨g',?_⟩;symm
 ·exact AC (by omega)
 have Yx:=sh (m:=m+118) (row:=F) (g:=g) (by omega) fun x hx=>(hf x hx).2;have VU:=sh (m:=m+117) (row:=R) (g:=g) (by omega) fun x hx=>(hr x hx).2;simp only [aK,aM,px] at Yx VU;have hn3:=sh (m:=m+117) (row:=F++R) (g:=g) (by simp;omega) fun x hx=>(bF.mp hx).elim (fun h=>(hf x h).2) (fun h=>(hr x h).2);simp only [aK,aM,px] at hn3;have hRp:0<ca R:=Gs Xu hr;have YQ:=EB (m:=m+29) (g:=g) (F:=F) (R:=R) (by omega) (fun x hx=>(hf x hx).2) (fun x hx=>(hr x hx).2) hRp;have hd2:=DM (m:=m+8) (g:=g) (F:=F) (R:=R) (by omega) (fun x hx=>(hf x hx).2) (fun x hx=>(hr x hx).2) hRp;have ZT:=Af (a:= -((ca F:Nat):Int)-1) (b:=((64 ^ R.length:Nat):Int)-(ca R:Nat));have V2:=Af (a:= -((ca F:Nat):Int)-1) (b:= -(((64 ^ R.length:Nat):Int)-(ca R:Nat)));simp only [aK,aM] at YQ hd2;symm
 ·rw [wK];with_reducible exact Yx
 symm
 ·rw [yj];with_reducible exact VU
 symm
 ·with_reducible exact F1
 symm
 ·rw [<-dq,cu,<-dq,cu];with_reducible exact SO
 run_tac Wk.ce [``zU]
theorem CS:∀ {m L:Nat} {g:G} {F R:List Nat} {kv:KV} {sg:Int} (hs:sg=1\/sg= -1) (hk:KL L kv) (hl:F.length+R.length=L) (hL:L<=4) (hf:∀ x∈F,0<x/\x<64) (hr:∀ x∈R,0<x/\x<64) (V6:F≠[]) (Xu:R≠[]) (hz:uc kv F R=0),∃ g',ceCall P1 (m+170) "_law_parted" [.int sg,px (F++R),.int F.length,.QH (kt kv)] g=some (.bool true,g++g'):=by iterate 16
 rcases hs with rfl | rfl
 ·obtain ⟨QZ,g',h⟩:=GD (m:=m) (g:=g) hk hl hL hf hr V6 Xu hz;exact ⟨g',im (by rfl') CD (by rfl') h⟩
 ·obtain ⟨QZ,g',h⟩:=Dy (m:=m) (g:=g) hk hl hL hf hr V6 Xu hz;exact ⟨g',im (by rfl') CD (by rfl') h⟩
noncomputable def rn (f:Nat->Nat) (kv:KV):KV:=kv.map fun p=>(p.1.map f,p.2)
noncomputable def Ed (f:Nat->Nat) (ws:List (Int×List Nat)):List (Int×List Nat):=ws.map fun w=>(w.1,w.2.map f)
section
variable {f:Nat->Nat} (hf:∀ i j,f i=f j->i=j)
include hf
theorem HA:∀ {r s:List Nat},r.map f=s.map f->r=s:=by iterate 0
 intro r;induction r with
 | nil=>intro s h;cases s with | nil=>rfl | cons _ _=>simp at h
 | cons a r Qo=>intro s h;cases s with | nil=>simp at h | cons b s=>simp only [aB,gy] at h;rw [hf _ _ h.1,Qo h.2]
theorem uk:∀ (k:List Nat),∀ kv:KV,(rn f kv).lookup (k.map f)=kv.lookup k:=by iterate 1
 intro kv;induction kv with
 | nil=>exact rfl
 | cons p kv Qo=>
  have ih:=Qo;show cG (k.map f) ((p.1.map f,p.2)::rn f kv)=cG k ((p.1,p.2)::kv);rw [aY,aY,ih];have:(k.map f==p.1.map f)=(k==p.1):=by rw [c8];simp only [beq_iff_eq];exact ⟨fun h=>HA hf h,fun h=>by rw [h]⟩
  rw [this]
theorem L2:∀ (k:List Nat) (v:Int),∀ kv:KV,rj (k.map f) v (rn f kv)=rn f (rj k v kv):=by iterate 2
 intro kv;induction kv with
 | nil=>exact rfl
 | cons p kv Qo=>
  have ih:=Qo;show (if p.1.map f=k.map f then (k.map f,v)::rn f kv else (p.1.map f,p.2)::rj (k.map f) v (rn f kv))=rn f (if p.1=k then (k,v)::kv else p::rj k v kv);by_cases h:p.1=k
  ·rw [if_pos h,if_pos (by rw [h])];rfl
  ·rw [if_neg h,if_neg (fun e=>h (HA hf e)),ih];rfl
theorem Di:∀ (ws:List (Int×List Nat)) (kv:KV),se (Ed f ws) (rn f kv)=rn f (se ws kv):=by iterate 0 intro ws;induction ws with | nil=>intro _;exact rfl | cons w ws Qo=>intro kv;show se (Ed f ws) (rj (w.2.map f) (((rn f kv).lookup (w.2.map f)).getD 0+w.1) (rn f kv))=rn f (se ws (rj w.2 ((kv.lookup w.2).getD 0+w.1) kv));rw [uk hf,L2 hf,Qo]
omit hf in
theorem Jf:∀ (r:List Nat) (ws:List (Int×List Nat)),xH (Ed f ws) (r.map f)=Ed f (xH ws r):=by iterate 0 intro r;induction r with | nil=>intro ws;exact rfl | cons y r Qo=>intro ws;rw [aB,SA.2.2.2.1,SA.2.2.2.1,<-Qo];congr 1;simp [Ed,kQ]
omit hf in
theorem N2:∀ r:List Nat,yB (r.map f)=Ed f (yB r)
 | []=>rfl
 | x::r=>by show xH [(1,[f x])] (r.map f)=Ed f (xH [(1,[x])] r);rw [<-Jf];rfl
theorem Mw:∀ (x:Nat),∀ kv:KV,sr (rn f kv) (f x)=Ed f (sr kv x):=by iterate 1
 intro kv;induction kv with
 | nil=>exact rfl
 | cons p kv Qo=>
  have ih:=Qo;show (if (p.1.map f).head? =some (f x) then (yB (p.1.map f)).map fun w=>(w.1 * p.2,w.2) else [])++sr (rn f kv) (f x)=Ed f ((if p.1.head? =some x then (yB p.1).map fun w=>(w.1 * p.2,w.2) else [])++sr kv x);rw [ih];have e:(p.1.map f).head? =some (f x)↔p.1.head? =some x:=by cases p.1 with | nil=>simp | cons a r=>simp only [aB,mF,fi];exact ⟨fun h=>hf _ _ h,fun h=>by rw [h]⟩
  by_cases h:p.1.head? =some x
  ·rw [if_pos h,if_pos (e.mpr h),N2];simp [Ed]
  ·rw [if_neg h,if_neg (fun q=>h (e.mp q))];rfl
theorem JJ:∀ (kv:KV) (x:Nat),pM (rn f kv) (f x)=rn f (pM kv x):=by iterate 2 unfold pM;rw [Mw hf,show ([]:KV)=rn f [] from rfl,Di hf];rfl
theorem Lu:∀ (cs:List Nat) (x:Nat),tC (cs.map f) (f x)=tC cs x:=by iterate 2 unfold tC;rw [mH,aG];congr 3;funext y;show (f y==f x)=(y==x);rw [c8];simp only [beq_iff_eq];exact ⟨fun h=>hf _ _ h,fun h=>by rw [h]⟩
omit hf in
theorem NK:∀ (kv:KV),MH (rn f kv)=rn f (MH kv):=by iterate 1 unfold MH rn;rw [dy,lM];congr 1;funext p;simp only [dC,ML];split<;>rfl
omit hf in
theorem Lf:∀ (kv:KV) (o:Int),En (rn f kv) o=rn f (En kv o):=by iterate 2 unfold En rn;rw [dy,lM];congr 1;funext p;simp only [dC,DP];split<;>rfl
theorem Ip:∀ (a b:KV),zm (rn f a) (rn f b)=zm a b:=by iterate 2
 unfold zm;have h1:(rn f a).length=a.length:=by simp [rn]
 have h2:(rn f b).length=b.length:=by simp [rn]
 rw [h1,h2];congr 1;rw [show rn f a=a.map fun p=>(p.1.map f,p.2) from rfl,iV];congr 1;funext p;simp only [dC];rw [uk hf]
theorem HC:∀ (kv:KV) (cs:List Nat) (x:Nat),xJ (rn f kv) (cs.map f) (f x)=xJ kv cs x:=by iterate 3 unfold xJ;rw [JJ hf,NK,Lu hf,Lf,Ip hf];congr 1;rw [show rn f kv=kv.map fun p=>(p.1.map f,p.2) from rfl,iV];congr 1;funext p;simp only [dC];rw [uk hf]
omit hf in
theorem Gg:∀ (bs:List Bool) (a b:List Nat),pF bs (a.map f) (b.map f)=(pF bs a b).map f:=by iterate 0
 intro bs;induction bs with
 | nil=>exact fun _ _=>rfl
 | cons b0 bs Qo=>
  intro a b;cases b0 with
  | true=>cases a with | nil=>rfl | cons x a=>exact congrArg (f x::·) (Qo a b)
  | false=>cases b with | nil=>rfl | cons x b=>exact congrArg (f x::·) (Qo a b)
theorem IU:∀ (kv:KV) (a b:List Nat),uc (rn f kv) (a.map f) (b.map f)=uc kv a b:=by iterate 3 unfold uc;rw [aG,aG];congr 2;funext c;unfold vN;rw [aG,aG,Gg,uk hf]
end
noncomputable def pS (cs:List Nat):List Nat:=cs.map fun x=>cs.idxOf x
noncomputable def ER (cs:List Nat) (i:Nat):Nat:=match cs[i]? with
| some x=>if cs.idxOf x=i then x else i+1000
| none=>i+1000
theorem Dn:∀ {cs:List Nat} (h:∀ x∈cs,x<1000) (i j:Nat) (e:ER cs i=ER cs j),i=j:=by iterate 5
 unfold ER at e;cases h1:cs[i]? with
 | none=>rw [h1] at e;cases h2:cs[j]? with | none=>rw [h2] at e;dsimp only at e;omega | some y=>rw [h2] at e;dsimp only at e;have:=h y (bL h2);split at e<;>omega
 | some x=>
  rw [h1] at e;have hx:=h x (bL h1);cases h2:cs[j]? with
  | none=>rw [h2] at e;dsimp only at e;split at e<;>omega
  | some y=>
   rw [h2] at e;have hy:=h y (bL h2);dsimp only at e;split at e<;>split at e
   ·rename_i q1 q2;rw [<-q1,<-q2,e]
   all_goals omega
theorem De:∀ (cs:List Nat),(pS cs).map (ER cs)=cs:=by iterate 1
 unfold pS;rw [b7];have:∀ x∈cs,(ER cs ∘ fun x=>cs.idxOf x) x=x:=fun x hx=>by
  have h:=dJ hx;have h1:cs[cs.idxOf x]? =some x:=by rw [au h,lN]
  simp only [dC,ER,h1,if_true]
 exact (cN this).trans (List.map_id _)
noncomputable def U0:List (List Nat):=[[0,0,0],[0,0,2],[0,1,0],[0,1,1],[0,1,2]]
noncomputable def UZ:List (List Nat):=[[0,0,0,0],[0,0,0,3],[0,0,2,0],[0,0,2,2],[0,0,2,3],[0,1,0,0],[0,1,0,1],[0,1,0,3],[0,1,1,0],[0,1,1,1],[0,1,1,3],[0,1,2,0],[0,1,2,1],[0,1,2,2],[0,1,2,3]]
theorem JO:∀ {f:Nat->Nat} (hf:∀ i j,f i=f j->i=j) (x:Nat),∀ l:List Nat,(l.map f).idxOf (f x)=l.idxOf x:=by iterate 3
 intro l;induction l with
 | nil=>exact rfl
 | cons y l Qo=>
  rw [aB,mE,mE,Qo];have:(f y==f x)=(y==x):=by rw [c8];simp only [beq_iff_eq];exact ⟨fun h=>hf _ _ h,fun h=>by rw [h]⟩
  rw [this]
theorem MQ:∀ {cs:List Nat} {x:Nat} (hx:x∈cs),ER cs (cs.idxOf x)=x:=by iterate 3
 have h1:cs[cs.idxOf x]? =some x:=by rw [au (dJ hx),lN]
 simp only [ER,h1,if_true]
theorem AL:∀ {cs:List Nat} (h:∀ x∈cs,x<1000),pS (pS cs)=pS cs:=by iterate 2
 have key:∀ i∈pS cs,(pS cs).idxOf i=i:=fun i hi=>by obtain ⟨x,hx,rfl⟩:=aH.mp hi;have:=JO (Dn h) (cs.idxOf x) (pS cs);rw [De,MQ hx] at this;exact this.symm
 exact (cN key).trans (List.map_id' _)
noncomputable def all3:List (List Nat):=(aN 3).flatMap fun a=>(aN 3).flatMap fun b=>(aN 3).map fun c=>[a,b,c]
noncomputable def all4:List (List Nat):=(aN 4).flatMap fun a=>(aN 4).flatMap fun b=>(aN 4).flatMap fun c=>(aN 4).map fun d=>[a,b,c,d]
theorem D2:(all3.all fun l=>pS l !=l ||U0.contains l)=true:=by iterate 0 decide+kernel
theorem Eu:(all4.all fun l=>pS l !=l ||UZ.contains l)=true:=by iterate 0 decide+kernel
theorem Pm:∀ {a b c:Nat} (h:∀ x∈[a,b,c],x<1000),pS [a,b,c]∈U0:=by iterate 4
 have hb:∀ x∈[a,b,c],([a,b,c]:List Nat).idxOf x<3:=fun x hx=>dJ hx;have hm:pS [a,b,c]∈all3:=by simp only [all3,iZ,aH,cz];exact ⟨_,hb a (by simp),_,hb b (by simp),_,hb c (by simp),rfl⟩
 have:=aj.mp D2 _ hm;rw [AL h] at this;simpa using this
theorem Pn:∀ {a b c d:Nat} (h:∀ x∈[a,b,c,d],x<1000),pS [a,b,c,d]∈UZ:=by iterate 5
 have hb:∀ x∈[a,b,c,d],([a,b,c,d]:List Nat).idxOf x<4:=fun x hx=>dJ hx;have hm:pS [a,b,c,d]∈all4:=by simp only [all4,iZ,aH,cz];exact ⟨_,hb a (by simp),_,hb b (by simp),_,hb c (by simp),_,hb d (by simp),rfl⟩
 have:=aj.mp Eu _ hm;rw [AL h] at this;simpa using this
noncomputable def oQ (t:BT) (cs:List Nat):List (Int×List Nat):=t.words.map fun w=>(w.1,w.2.map fun i=>cs.getD i 9)
noncomputable def qi (t:BT) (cs:List Nat):KV:=se (oQ t cs) []
noncomputable def Oz (t:BT) (p:List Nat):Bool:=(p.all fun x=>xJ (qi t p) p x)&&((qi t p).all fun q=>decide (-1000<=q.2/\q.2<=1000))&&(oQ t p).all fun w=>(aN (p.length-1)).all fun j=>uc (qi t p) (w.2.take (j+1)) (w.2.drop (j+1))==0
theorem OZ:(SR.all fun t=>U0.all fun p=>Oz t p)=true:=by iterate 0 decide+kernel
theorem O8:(SQ.all fun t=>UZ.all fun p=>Oz t p)=true:=by iterate 0 decide+kernel
noncomputable abbrev Un:=Bool×Nat
noncomputable def rm:Un->List Nat
| (true,c)=>[92,c]
| (false,c)=>[c]
noncomputable def gl (U:List Un):List Nat:=U.flatMap rm
theorem pg:∀ (c:Nat),rm (true,c)=[92,c]:=by iterate 1 exact (rfl)
theorem ph:∀ (c:Nat),rm (false,c)=[c]:=by iterate 1 exact (rfl)
noncomputable def zL (u:Un):Bool:=u.1 ||u.2 !=92
noncomputable def pw:Nat->List Un->List D
| _,[]=>[]
| p,(true,c)::U=> .tup [.int (p+1:Nat),.str [92,c]]::pw (p+2) U
| p,(false,c)::U=> .tup [.int p,.str [c]]::pw (p+1) U
theorem qa:∀ {u:Un} {U:List Un},gl (u::U)=rm u++gl U:=by iterate 2 exact (rfl)
theorem qQ:∀ {U V:List Un},gl (U++V)=gl U++gl V:=by iterate 2 simp [gl]
theorem yS:∀ (U:List Un) (p:Nat),U.all zL=true->pZ p (gl U)=pw p U/\pZ p (gl U++[92])=pw p U++[.tup [.int (p+(gl U).length:Nat),.str [92]]]:=by iterate 0
 intro U;induction U with
 | nil=>intro p _;exact ⟨rfl,rfl⟩
 | cons RA U Qo=>
  obtain ⟨b0,c⟩:=RA;cases b0 with
  | true=>
   intro p h;have ih:=Qo (p+2) (by simpa [zL] using h);have e:gl ((true,c)::U)=92::c::gl U:=rfl;rw [e];refine ⟨?_,?_⟩
   ·(dsimp only [pZ];rw [if_pos rfl,ih.1]);rfl
   ·(rw [bc,bc];dsimp only [pZ];rw [if_pos rfl,ih.2])
    (dsimp only [pw];simp);omega
  | false=>
   intro p h;have ih:=Qo (p+1) (by simp [zL] at h ⊢;exact h.2);have hc:c≠92:=by simp [zL] at h;exact h.1
   have e:gl ((false,c)::U)=c::gl U:=rfl;have key:∀ r:List Nat,pZ p (c::r)= .tup [.int p,.str [c]]::pZ (p+1) r:=fun r=>by cases r with | nil=>rfl | cons d r=>(dsimp only [pZ];rw [if_neg hc])
   rw [e];refine ⟨?_,?_⟩
   ·rw [key,ih.1];rfl
   ·rw [bc,key,ih.2];(dsimp only [pw];simp);omega
theorem za:∀ {U:List Un} (h:U.all zL=true),units (gl U)=pw 0 U:=by iterate 2 exact ((yS U 0 h).1)
theorem BD:∀ {U:List Un} (h:U.all zL=true),units (gl U++[92])=pw 0 U++[.tup [.int ((gl U).length:Nat),.str [92]]]:=by iterate 2 have:=(yS U 0 h).2;rw [dM] at this;exact this
noncomputable def qu (u:Un):Bool:=!u.1&&u.2==34
noncomputable def ga:Bool->List Un->List Un
| _,[]=>[]
| q,u::U=>bif qu u then ga (!q) U else bif q then ga true U else u::ga false U
noncomputable def q9:Bool->List Un->Bool
| q,[]=>!q
| q,u::U=>bif qu u then q9 (!q) U else q9 q U
theorem AH:∀ {u:Un} (h:qu u=true),u=(false,34):=by iterate 2 obtain ⟨a,b⟩:=u;simp [qu] at h;rw [h.1,h.2]
theorem qX:∀ {q:Bool} {U:List Un},ga q ((false,34)::U)=ga (!q) U:=by iterate 2 cases q<;>rfl
theorem ue:∀ {u:Un} {U:List Un} (h:qu u=false),ga true (u::U)=ga true U:=by iterate 3 show (bif qu u then _ else _)=_;rw [h];rfl
theorem pK:∀ {u:Un} {U:List Un} (h:qu u=false),ga false (u::U)=u::ga false U:=by iterate 3 show (bif qu u then _ else _)=_;rw [h];rfl
theorem vR:∀ {q:Bool} {U:List Un},q9 q ((false,34)::U)=q9 (!q) U:=by iterate 2 cases q<;>rfl
theorem uN:∀ {q:Bool} {u:Un} {U:List Un} (h:qu u=false),q9 q (u::U)=q9 q U:=by iterate 4 show (bif qu u then _ else _)=_;rw [h];rfl
theorem qB:∀ {V:List Un},∀ (U:List Un) (q:Bool),q9 q U=true->ga q (U++V)=ga q U++ga false V/\q9 q (U++V)=q9 false V:=by iterate 1
 intro U;induction U with
 | nil=>intro q h;cases q with | true=>(dsimp only [q9] at h;simp at h) | false=>exact ⟨rfl,rfl⟩
 | cons u U Qo=>
  intro q h;cases e:qu u with
  | true=>have:=AH e;subst this;rw [vR] at h;have ih:=Qo (!q) h;rw [bc,qX,qX,vR];exact ih
  | false=>rw [uN e] at h;have ih:=Qo q h;rw [bc,uN e];cases q with | true=>rw [ue e,ue e];exact ih | false=>rw [pK e,pK e,ih.1];exact ⟨rfl,ih.2⟩
theorem Hg:∀ (U:List Un),(34:Nat)∉gl U->ga false U=U:=by iterate 0
 intro U;induction U with
 | nil=>intro _;exact rfl
 | cons u U Qo=>
  intro h;have h1:qu u=false:=by cases e:qu u with | false=>rfl | true=>have:=AH e;subst this;exact absurd (by rw [qa];simp [pg,ph]) h
  rw [pK h1,Qo fun hm=>h (by rw [qa];simp [hm])]
theorem AZ:∀ (U:List Un) (q:Bool),U.all zL=true->(ga q U).all zL=true:=by iterate 0
 intro U;induction U with
 | nil=>intro _ _;exact rfl
 | cons u U Qo=>
  intro q h;simp only [ez,ai] at h;cases e:qu u with
  | true=>have:=AH e;subst this;rw [qX];exact Qo _ h.2
  | false=>cases q with | true=>rw [ue e];exact Qo _ h.2 | false=>rw [pK e];simp only [ez,ai];exact ⟨h.1,Qo _ h.2⟩
noncomputable def tn:Nat->List Un->Bool
| n,[]=>n==0
| n,u::U=>bif !u.1&&u.2==40 then tn (n+1) U else bif !u.1&&u.2==41 then (n !=0&&tn (n-1) U) else tn n U
theorem He:pd P1 "_strip_quoted_realnames" =some ⟨["addr"],fsc P1 "_strip_quoted_realnames",fb P1 "_strip_quoted_realnames"⟩:=by iterate 0 rfl'
noncomputable def Nd:Expr:=D3 (at_ (fb P1 "_strip_quoted_realnames") 4)
noncomputable def N3:List Stmt:=p7 (at_ (fb P1 "_strip_quoted_realnames") 4)
noncomputable def Ox:Option Nat->D
| none=> .none
| some o=> .int o
structure UN (T:Qr) (A:List Nat) (s:Nat) (o:Option Nat):Prop where
 a:T.At "addr" (.str A)
 s:T.At "start" (.int s)
 o:T.At "open_pos" (Ox o)
 r:T.lookup ("result" :Str)=none
theorem UN.other:∀ {T:Qr} {A:List Nat} {s:Nat} {o:Option Nat} {d1 d2:D} (h:UN T A s o),UN (("ch",d1)::("pos",d2)::T) A s o:=by iterate 7 exact (⟨h.a,h.s,h.o,h.r⟩)
theorem Ir:∀ {m p s:Nat} {T:Qr} {A:List Nat} {rs:List D} {g:G} (h:UN T A s none),∃ T',turnF P1 (m+40) (fsc P1 "_strip_quoted_realnames") Nd N3 (.tup [.int p,.str [34]]) ⟨T,[],some ("result",.lst rs)⟩ g=some (⟨T',[],some ("result",.lst rs)⟩,g,none)/\UN T' A s (some p):=by iterate 8 have h1:=h.a;have h2:=h.s;have h3:=h.o;have h4:=h.r;dsimp only [Ox] at h3;refine ⟨("open_pos",.int p)::("ch",.str [34])::("pos",.int p)::T,?_,⟨h.a,h.s,rfl,h.r⟩⟩;symm
theorem J0:∀ {m p s:Nat} {T:Qr} {A x:List Nat} {o:Option Nat} {rs:List D} {g:G} (h:UN T A s o) (hx:(x==[34])=false),∃ T',turnF P1 (m+40) (fsc P1 "_strip_quoted_realnames") Nd N3 (.tup [.int p,.str x]) ⟨T,[],some ("result",.lst rs)⟩ g=some (⟨T',[],some ("result",.lst rs)⟩,g,none)/\UN T' A s o:=by iterate 11 refine ⟨_,?_,h.other (d1:= .str x) (d2:= .int p)⟩;symm
theorem DU:∀ {A:List Nat} {s o:Nat} (h:s<=o) (h2:o<=A.length),slice A (some (s:Int)) (some (o:Int))=(A.take o).drop s:=by iterate 5
 have h3:¬ ((s:Int)<0):=by omega
 have h4:¬ ((o:Int)<0):=by omega
 simp only [slice,o7,oU,pN,h3,h4,if_false,aP];rw [dN h2,dN (by omega)]
theorem xw:∀ {α:Type} {A:List α} {s:Nat} (h:s<=A.length),slice A (some (s:Int)) none=A.drop s:=by iterate 4
 have h3:¬ ((s:Int)<0):=by omega
 simp only [slice,o7,oU,pN,h3,if_false,aP];rw [dN h,iY]
theorem HD:∀ {m p s o:Nat} {T:Qr} {A:List Nat} {rs:List D} {g:G} (h:UN T A s (some o)) (Rt:s≠o) (hl:rs.length<1000),∃ T',turnF P1 (m+40) (fsc P1 "_strip_quoted_realnames") Nd N3 (.tup [.int p,.str [34]]) ⟨T,[],some ("result",.lst rs)⟩ g=some (⟨T',[],some ("result",.lst (rs++[.str (slice A (some (s:Int)) (some (o:Int)))]))⟩,g,none)/\UN T' A (p+1) none:=by iterate 11
 have h1:=h.a;have h2:=h.s;have h3:=h.o;have h4:=h.r;dsimp only [Ox] at h3;have c1:(!((s:Int)==(o:Int)))=true:=by simp;omega
 have ha:∀ d,ownMeth "append" rs [d]=some (rs++[d]):=fun d=>rE (by unfold lim;omega);refine ⟨("open_pos",.none)::("start",.int (p+1:Nat))::("ch",.str [34])::("pos",.int p)::T,?_,⟨h.a,rfl,rfl,h.r⟩⟩;symm
 ·exact ha _
 symm
theorem EC:∀ {m p s:Nat} {T:Qr} {A:List Nat} {rs:List D} {g:G} (h:UN T A s (some s)),∃ T',turnF P1 (m+40) (fsc P1 "_strip_quoted_realnames") Nd N3 (.tup [.int p,.str [34]]) ⟨T,[],some ("result",.lst rs)⟩ g=some (⟨T',[],some ("result",.lst rs)⟩,g,none)/\UN T' A (p+1) none:=by iterate 8
 have h1:=h.a;have h2:=h.s;have h3:=h.o;have h4:=h.r;dsimp only [Ox] at h3;have c1:(!((s:Int)==(s:Int)))=false:=by simp
 refine ⟨("open_pos",.none)::("start",.int (p+1:Nat))::("ch",.str [34])::("pos",.int p)::T,?_,⟨h.a,rfl,rfl,h.r⟩⟩;symm
theorem Ln:∀ {A pre:List Nat} {W:List Nat} (h:A=pre++W) (k:Nat) (hk:k<=pre.length),A.take k=pre.take k:=by iterate 6 rw [h,bZ hk]
theorem IY:∀ {m:Nat} {A:List Nat} {g:G},∀ (U:List Un) (pre:List Nat) (o:Option Nat) (s:Nat) (rs:List (List Nat)) (T:Qr),A=pre++gl U->UN T A s o->q9 o.isSome U=true->s<=o.getD pre.length->o.getD pre.length<=pre.length->rs.length+U.length<1000->
  ∃ (T':Qr) (s':Nat) (SU:List (List Nat)),iterLoop (turnF P1 (m+40) (fsc P1 "_strip_quoted_realnames") Nd N3) (pw pre.length U) ⟨T,[],some ("result",.lst (rs.map D.str))⟩ g=some (⟨T',[],some ("result",.lst (SU.map D.str))⟩,g,none)/\UN T' A s' none/\s'<=A.length/\
   SU.flatten++A.drop s'=rs.flatten++((pre.take (o.getD pre.length)).drop s++gl (ga o.isSome U))/\SU.length<1000:=by iterate 3
 intro U;induction U with
 | nil=>
  intro pre o s rs T hA hT hb hs ho hl;cases o with
  | some o=>(dsimp only [q9] at hb;simp at hb)
  | none=>
   simp only [gx] at hs;have e:A=pre:=by rw [hA];simp [gl]
   refine ⟨T,s,rs,rfl,hT,by rw [e];exact hs,?_,by simpa using hl⟩;rw [e];(dsimp only [ga,gl];simp)
 | cons u U Qo=>
  intro pre o s rs T hA hT hb hs ho hl;have hlu:(rm u).length=1\/(rm u).length=2:=by obtain ⟨a,c⟩:=u;cases a<;>simp [pg,ph]
  have Y9:A=(pre++rm u)++gl U:=by rw [hA,qa,bK]
  have Us:∃ p',pw pre.length (u::U)= .tup [.int (p':Nat),.str (rm u)]::pw (pre++rm u).length U/\(qu u=true->p'=pre.length):=by
   obtain ⟨a,c⟩:=u;cases a
   ·exact ⟨pre.length,by (dsimp only [pw];simp [pg,ph]),fun _=>rfl⟩
   ·exact ⟨pre.length+1,by (dsimp only [pw];simp [pg,ph]),fun h=>by simp [qu] at h⟩
  obtain ⟨p',Us,hp⟩:=Us;simp only [aI] at hl;cases e:qu u with
  | false=>
   rw [uN e] at hb;have hx:(rm u==[34])=false:=by obtain ⟨a,c⟩:=u;cases a<;>simp [qu,pg,ph] at e ⊢;exact e
   obtain ⟨T1,e1,Vw⟩:=J0 (m:=m) (p:=p') (rs:=rs.map D.str) (g:=g) hT hx;obtain ⟨T',s',SU,e2,f1,f2,f3,f4⟩:=Qo (pre++rm u) o s rs T1 Y9 Vw hb (by cases o<;>simp at hs ⊢ <;>omega) (by cases o<;>simp at ho ⊢;omega) (by omega);refine ⟨T',s',SU,?_,f1,f2,?_,f4⟩
   ·rw [Us,ol e1];exact e2
   ·rw [f3];cases o with | none=>simp only [gx,iY,iq] at hs ⊢;rw [pK e,qa,eT hs,bK] | some o=>simp only [gw,Option.isSome_some] at ho ⊢;rw [ue e,bZ ho]
  | true=>
   have hq:=AH e;subst hq;rw [vR] at hb;rw [qX];obtain rfl:=hp rfl;have hAl:pre.length<A.length:=by rw [Y9];simp [pg,ph]
   cases o with
   | none=>
    simp only [gx] at hs;obtain ⟨T1,e1,Vw⟩:=Ir (m:=m) (p:=pre.length) (rs:=rs.map D.str) (g:=g) hT;obtain ⟨T',s',SU,e2,f1,f2,f3,f4⟩:=Qo (pre++rm (false,34)) (some pre.length) s rs T1 Y9 Vw hb (by simpa using hs) (by simp) (by omega);refine ⟨T',s',SU,?_,f1,f2,?_,f4⟩
    ·rw [Us];rw [show rm (false,34)=[34] from rfl] at e2 ⊢;rw [ol e1];exact e2
    ·rw [f3];simp
   | some o=>
    simp only [gw] at hs ho;by_cases Rt:s=o
    ·subst Rt;obtain ⟨T1,e1,Vw⟩:=EC (m:=m) (p:=pre.length) (rs:=rs.map D.str) (g:=g) hT;obtain ⟨T',s',SU,e2,f1,f2,f3,f4⟩:=Qo (pre++rm (false,34)) none (pre.length+1) rs T1 Y9 Vw hb (by simp [pg,ph]) (by simp) (by omega);refine ⟨T',s',SU,?_,f1,f2,?_,f4⟩
     ·rw [Us];rw [show rm (false,34)=[34] from rfl] at e2 ⊢;rw [ol e1];exact e2
     ·rw [f3];simp [pg,ph]
    ·obtain ⟨T1,e1,Vw⟩:=HD (m:=m) (p:=pre.length) (rs:=rs.map D.str) (g:=g) hT Rt (by simp;omega);rw [DU hs (by omega)] at e1;obtain ⟨T',s',SU,e2,f1,f2,f3,f4⟩:=Qo (pre++rm (false,34)) none (pre.length+1) (rs++[(A.take o).drop s]) T1 Y9 Vw hb (by simp [pg,ph]) (by simp) (by simp;omega);refine ⟨T',s',SU,?_,f1,f2,?_,f4⟩
     ·rw [Us];rw [show rm (false,34)=[34] from rfl] at e2 ⊢;rw [ol e1];simpa using e2
     ·rw [f3,Ln hA o ho];simp [pg,ph]
theorem Bk:∀ rs:List (List Nat),xr [] (rs.map D.str)=some rs.flatten
 | []=>rfl
 | [x]=>by rw [lW,mq,aS];rfl
 | x::y::rs=>by have ih:=Bk (y::rs);show ((xr [] ((y::rs).map D.str)).bind fun z=>some (x++[]++z))=_;rw [ih,aS];rfl
theorem zT:∀ {rs:List (List Nat)} {g:G} (h:rs.flatten.length<=lim),methD "join" (.str []) [.lst (rs.map D.str)] g=some (.str rs.flatten,g):=by iterate 3
 have:methD "join" (.str []) [.lst (rs.map D.str)] g=(xr [] (rs.map D.str)).bind fun r=>(E4 r).bind fun d=>some (d,g):=by rfl'
 rw [this,Bk,bz,E4,if_pos h];rfl
theorem CY:∀ U:List Un,U.length<=(gl U).length:=by iterate 0 intro U;induction U with | nil=>exact bN _ | cons RA U Qo=>obtain ⟨a,c⟩:=RA;have:=Qo;rw [qa];cases a<;>simp [pg,ph]<;>omega
theorem CN:∀ (U:List Un) (q:Bool),(gl (ga q U)).length<=(gl U).length:=by iterate 0
 intro U;induction U with
 | nil=>intro q;(dsimp only [ga];simp)
 | cons u U Qo=>
  intro q;rw [qa,aw];cases e:qu u with
  | true=>have:=AH e;subst this;rw [qX];have:=Qo (!q);omega
  | false=>cases q with | true=>rw [ue e];have:=Qo true;omega | false=>rw [pK e,qa,aw];have:=Qo false;omega
theorem xd:∀ {m:Nat} {U:List Un} {g:G} (h:U.all zL=true) (hb:q9 false U=true) (hl:(gl U).length<900),ceCall P1 (m+60) "_strip_quoted_realnames" [.str (gl U)] g=some (.str (gl (ga false U)),g):=by iterate 6
 by_cases hq:(34:Nat)∈gl U
 ·have c1:(!decide ((34:Nat)∈gl U))=false:=by simp [hq]
  have Us:=za h;have hul:=CY U;obtain ⟨T',s',SU,e1,hT,f2,f3,f4⟩:=IY (m:=m+12) (g:=g) U [] none 0 [] [("open_pos",.none),("start",.int 0),("addr",.str (gl U))] rfl ⟨rfl,rfl,rfl,rfl⟩ hb (by simp) (by simp) (by simpa using (by omega:U.length<1000));rw [show pw ([]:List Nat).length U=units (gl U) from Us.symm] at e1;simp only [mq,a9,List.take_nil,nu,iq] at f3;have h1:=hT.a;have h2:=hT.s;have h4:=hT.r;have ZE:=CN U false;have ha:∀ d,ownMeth "append" (SU.map D.str) [d]=some ((SU.map D.str)++[d]):=fun d=>rE (by simp [lim];omega);by_cases hc:s'<(gl U).length
  ·have c2:decide ((s':Int)<((gl U).length:Int))=true:=by simp;omega
   have hj:methD "join" (.str []) [.lst (SU.map D.str++[.str (slice (gl U) (some (s':Int)) none)])] g=some (.str (gl (ga false U)),g):=by rw [xw (by omega)];have:=zT (rs:=SU++[(gl U).drop s']) (g:=g) (by rw [fk,kF,f3];unfold lim;omega);rw [fk,kF,f3,dG] at this;exact this
   apply im (by rfl') He (by rfl');symm
   ·exact ha _
   symm
  ·have c2:decide ((s':Int)<((gl U).length:Int))=false:=by simp;omega
   have hj:methD "join" (.str []) [.lst (SU.map D.str)] g=some (.str (gl (ga false U)),g):=by rw [gR (by omega),aS] at f3;rw [<-f3];exact zT (by rw [f3];unfold lim;omega)
   apply im (by rfl') He (by rfl');symm
 ·have c1:(!decide ((34:Nat)∈gl U))=true:=by simp [hq]
  rw [Hg U hq];apply im (by rfl') He (by rfl');symm
theorem KO:pd P1 "_check_parenthesis" =some ⟨["addr"],fsc P1 "_check_parenthesis",fb P1 "_check_parenthesis"⟩:=by iterate 0 rfl'
noncomputable def Qc:Expr:=D3 (at_ (fb P1 "_check_parenthesis") 2)
noncomputable def PT:List Stmt:=p7 (at_ (fb P1 "_check_parenthesis") 2)
structure CpT (T:Qr) (n:Nat):Prop where
 n:T.At "opens" (.int n)
 o:T.lookup ("own" :Str)=none
noncomputable abbrev H8 (m:Nat):=turnF P1 (m+40) (fsc P1 "_check_parenthesis") Qc PT
theorem IH:∀ {m p n:Nat} {T:Qr} {g:G} (h:T.At "opens" (.int n)),∃ T',H8 m (.tup [.int p,.str [40]]) ⟨T,[],none⟩ g=some (⟨T',[],none⟩,g,none)/\T'.At "opens" (.int (n+1:Nat)):=by iterate 6 refine ⟨("opens",.int (n+1:Nat))::("ch",.str [40])::("pos",.int p)::T,?_,rfl⟩;dsimp only [H8];symm
theorem Hb:∀ {m p n:Nat} {T:Qr} {g:G} (h:T.At "opens" (.int (n+1:Nat))),∃ T',H8 m (.tup [.int p,.str [41]]) ⟨T,[],none⟩ g=some (⟨T',[],none⟩,g,none)/\T'.At "opens" (.int n):=by iterate 6
 have c1:decide (((n+1:Nat):Int)-1<0)=false:=by simp
 refine ⟨("opens",.int (((n+1:Nat):Int)-1))::("ch",.str [41])::("pos",.int p)::T,?_,?_⟩
 ·dsimp only [H8];symm
 ·show some _=some _;congr 2;omega
theorem Lr:∀ {m p:Nat} {T:Qr} {g:G} (h:T.At "opens" (.int (0:Nat))),∃ T',H8 m (.tup [.int p,.str [41]]) ⟨T,[],none⟩ g=some (⟨T',[],none⟩,g,some (.bool false)):=by iterate 5 refine ⟨("opens",.int (-1))::("ch",.str [41])::("pos",.int p)::T,?_⟩;dsimp only [H8];symm
theorem Jb:∀ {m p n:Nat} {x:List Nat} {T:Qr} {g:G} (h:T.At "opens" (.int n)) (h1:(x==[40])=false) (h2:(x==[41])=false),∃ T',H8 m (.tup [.int p,.str x]) ⟨T,[],none⟩ g=some (⟨T',[],none⟩,g,none)/\T'.At "opens" (.int n):=by iterate 9 refine ⟨("ch",.str x)::("pos",.int p)::T,?_,h⟩;dsimp only [H8];symm
theorem AI:∀ (u:Un) (U:List Un) (p:Nat),∃ (q r:Nat),pw p (u::U)= .tup [.int q,.str (rm u)]::pw r U:=by iterate 3
 obtain ⟨a,c⟩:=u;cases a
 ·exact ⟨p,_,rfl⟩
 ·exact ⟨p+1,_,rfl⟩
theorem v4:∀ {n:Nat} {u:Un} {U:List Un} (h1:(rm u==[40])=false) (h2:(rm u==[41])=false),tn n (u::U)=tn n U:=by iterate 5
 obtain ⟨a,c⟩:=u;cases a
 ·have h1:c≠40:=by rintro rfl;cases h1
  have h2:c≠41:=by rintro rfl;cases h2
  show (bif !false&&c==40 then _ else bif !false&&c==41 then _ else _)=_;rw [beq_eq_false_iff_ne.mpr h1,beq_eq_false_iff_ne.mpr h2];rfl
 ·rfl
noncomputable def OX (b:Bool):Option D:=if b then some (.bool false) else none
theorem H7:∀ {m:Nat} {g:G},∀ (U:List Un) (p n:Nat) (T:Qr),T.At "opens" (.int n)->
  ∃ (T':Qr) (k:Nat) (b:Bool),iterLoop (H8 m) (pw p U) ⟨T,[],none⟩ g=some (⟨T',[],none⟩,g,OX b)/\(b=false->T'.At "opens" (.int k))/\tn n U=(!b&&k==0):=by iterate 2
 intro U;induction U with
 | nil=>intro p n T h;exact ⟨T,n,false,rfl,fun _=>h,rfl⟩
 | cons u U Qo=>
  intro p n T h;obtain ⟨q,r,e⟩:=AI u U p;(rw [e];dsimp only [iterLoop]);by_cases h1:u=(false,40)
  ·subst h1;obtain ⟨T1,e1,hT⟩:=IH (m:=m) (p:=q) (g:=g) h;obtain ⟨T',k,b,f1,f2,f3⟩:=Qo r (n+1) T1 hT;refine ⟨T',k,b,?_,f2,?_⟩
   ·rw [show rm (false,40)=[40] from rfl,e1];exact f1
   ·cases n<;>exact f3
  by_cases h2:u=(false,41)
  ·subst h2;cases n with | zero=>obtain ⟨T1,e1⟩:=Lr (m:=m) (p:=q) (g:=g) h;refine ⟨T1,0,true,?_,(fun h=>by cases h),rfl⟩;rw [show rm (false,41)=[41] from rfl,e1];rfl | succ n=>obtain ⟨T1,e1,hT⟩:=Hb (m:=m) (p:=q) (g:=g) h;obtain ⟨T',k,b,f1,f2,f3⟩:=Qo r n T1 hT;refine ⟨T',k,b,?_,f2,f3⟩;rw [show rm (false,41)=[41] from rfl,e1];exact f1
  have g1:(rm u==[40])=false:=by obtain ⟨a,c⟩:=u;cases a<;>simp [pg,ph] at h1 ⊢;exact h1
  have g2:(rm u==[41])=false:=by obtain ⟨a,c⟩:=u;cases a<;>simp [pg,ph] at h2 ⊢;exact h2
  obtain ⟨T1,e1,hT⟩:=Jb (m:=m) (p:=q) (g:=g) h g1 g2;obtain ⟨T',k,b,f1,f2,f3⟩:=Qo r n T1 hT;refine ⟨T',k,b,?_,f2,?_⟩
  ·rw [e1];exact f1
  ·rw [v4 g1 g2];exact f3
theorem uH:∀ {m:Nat} {U:List Un} {g:G} (h:U.all zL=true) (hb:q9 false U=true) (hl:(gl U).length<900),ceCall P1 (m+70) "_check_parenthesis" [.str (gl U)] g=some (.bool (tn 0 (ga false U)),g):=by iterate 6 have hs:=xd (m:=m+6) (g:=g) h hb hl;have Us:=za (AZ U false h);obtain ⟨T',k,b,e1,hT,f3⟩:=H7 (m:=m+24) (g:=g) (ga false U) 0 0 [("opens",.int 0),("addr",.str (gl (ga false U))),("addr",.str (gl U))] rfl;rw [<-Us] at e1;rw [f3];simp only [aK,aM] at hs;cases b with | true=>apply im (by rfl') KO (by rfl');symm | false=>have hT:=hT rfl;rw [show (!false&&k==0)=((k:Int)==0) from by cases k<;>rfl];apply im (by rfl') KO (by rfl');symm
noncomputable def SD:List (List Nat×Int):=[([33],54),([33,61],28),([37],24),([37,61],40),([38],19),([38,61],41),([40],7),([41],8),([42],16),([42,42],35),([42,42,61],46),([42,61],38),([43],14),([43,61],36),([44],12),([45],15),([45,61],37),([45,62],51),([46],23),([46,46,46],52),([47],17),([47,47],47),([47,47,61],48),([47,61],39),([58],11),([58,61],53),([59],13),([60],20),([60,60],33),([60,60,61],44),([60,61],29),([61],22),([61,61],27),([62],21),([62,61],30),([62,62],34),([62,62,61],45),([64],49),([64,61],50),([91],9),([93],10),([94],32),([94,61],43),([123],25),([124],18),([124,61],42),([125],26),([126],31)]
theorem CQ:qm P1=SD:=by iterate 0 rfl'
noncomputable def yx (x:List Nat):Bool:=(SD.lookup x).isSome
noncomputable def pO (A:List Nat):Option (List Nat):=((([3,2,1]:List Nat).filter fun k=>yx (A.take k)).map fun k=>A.take k)[0]?
noncomputable def uV:Nat->List Nat->Option (List Int)
| 0,_=>none
| n+1,A=>if A==[92] then some [] else (pO A).bind fun pc=>(SD.lookup pc).bind fun c=>(uV n (A.drop pc.length)).map (c::·)
theorem Mz:pd P1 "_law_cut" =some ⟨["word"],fsc P1 "_law_cut",fb P1 "_law_cut"⟩:=by iterate 0 rfl'
noncomputable def Pj:Expr:=D3 (at_ (fb P1 "_law_cut") 3)
noncomputable def O5:List Stmt:=p7 (at_ (fb P1 "_law_cut") 3)
noncomputable def Pr:List Stmt:=p7 (at_ (fb P1 "_law_cut") 4)
noncomputable def PB:Expr:=yo (at_ (fb P1 "_law_cut") 4)
structure Zm (T:Qr) (A:List Nat) (e:Nat):Prop where
 a:T.At "text" (.str A)
 e:T.At "ends" (.int e)
 o:T.lookup ("codes" :Str)=none
theorem tN:∀ {a b:List Nat} (h:(a++b).length<=lim),inop .Add (.str a) (.str b)=some (.str (a++b)):=by iterate 3
 have:inop .Add (.str a) (.str b)=E4 (a++b):=by rfl'
 rw [this,E4,if_pos h]
theorem Ms:∀ (X:List Nat),cmp P1 .In (.str X) .tab=some (yx X):=by iterate 1 rw [yx,<-CQ];rcases X with _ | ⟨c,_ | ⟨d,r⟩⟩<;>rfl'
theorem CT:∀ {X:List Nat} {c:Int} (h:SD.lookup X=some c),subD P1 .tab (.str X)=some (.int c):=by iterate 3
 have:subD P1 .tab (.str X)=((qm P1).lookup X).map .int:=by rfl'
 rw [this,CQ,h];rfl
theorem vg:∀ {α:Type} {A:List α} {s:Nat},slice A none (some (s:Int))=A.take s:=by iterate 3
 have h3:¬ ((s:Int)<0):=by omega
 simp only [slice,o7,oU,pN,h3,if_false,aP,j0];rw [List.take_eq_take_min (i:=s),Nat.min_comm]
theorem tW:∀ {α:Type} {step:D->List D->G->Option (List D×G×Option D)} {g:G} {emb F:α->D} {b:α->Bool},∀ {xs:List α} {acc:List D},(∀ x∈xs,∀ acc,step (emb x) acc g=some (if b x then acc++[F x] else acc,g,none))->iterLoop step (xs.map emb) acc g=some (acc++(xs.filter b).map F,g,none):=by iterate 6
 intro xs;induction xs with
 | nil=>intro acc _;first | rfl | (rw [aS];rfl) | (show some _=some _;simp)
 | cons x xs Qo=>intro acc h;rw [aB,ol (h x (by simp) _)];rw [Qo fun x hx=>h x (by simp [hx])];cases e:b x<;>simp [e]
theorem E5:∀ {m e c:Nat} {T:Qr} {A:List Nat} {g:G} (h:Zm T A e) (hl:A.length<900),∃ T',turnF P1 (m+40) (fsc P1 "_law_cut") Pj O5 (.tup [.int e,.str [c]]) ⟨T,[],some ("codes",.lst [])⟩ g=some (⟨T',[],some ("codes",.lst [])⟩,g,none)/\Zm T' (A++[c]) (e+1):=by iterate 8
 have h1:=h.a;have h2:=h.e;have c1:(!((e:Int)==(e:Int)+1-1))=false:=by simp
 have ha:inop .Add (.str A) (.str [c])=some (.str (A++[c])):=tN (by simp [lim];omega);refine ⟨("text",.str (A++[c]))::("ends",.int ((e:Int)+1))::("unit",.str [c])::("place",.int e)::T,?_,⟨rfl,rfl,h.o⟩⟩;symm
theorem Lj:∀ {m e c:Nat} {T:Qr} {A:List Nat} {g:G} (h:Zm T A e),∃ T',turnF P1 (m+40) (fsc P1 "_law_cut") Pj O5 (.tup [.int (e+1:Nat),.str [92,c]]) ⟨T,[],some ("codes",.lst [])⟩ g=some (⟨T',[],some ("codes",.lst [])⟩,g,none)/\Zm T' A (e+2):=by iterate 7
 have h1:=h.a;have h2:=h.e;have c1:(!(((e+1:Nat):Int)==(e:Int)+2-1))=false:=by simp;omega
 refine ⟨("ends",.int ((e:Int)+2))::("unit",.str [92,c])::("place",.int (e+1:Nat))::T,?_,⟨h.a,rfl,h.o⟩⟩;symm
noncomputable def tB:List Un->List Nat
| []=>[]
| (true,_)::U=>tB U
| (false,c)::U=>c::tB U
theorem Jz:∀ {m:Nat} {g:G},∀ (U:List Un) (e:Nat) (A:List Nat) (T:Qr),Zm T A e->A.length+U.length<900->
  ∃ T',iterLoop (turnF P1 (m+40) (fsc P1 "_law_cut") Pj O5) (pw e U++[.tup [.int (e+(gl U).length:Nat),.str [92]]]) ⟨T,[],some ("codes",.lst [])⟩ g=some (⟨T',[],some ("codes",.lst [])⟩,g,none)/\T'.At "text" (.str (A++tB U++[92]))/\T'.lookup ("codes" :Str)=none:=by iterate 2
 intro U;induction U with
 | nil=>intro e A T h hl;obtain ⟨T1,e1,h1⟩:=E5 (m:=m) (c:=92) (g:=g) h (by simpa using hl);refine ⟨T1,?_,by show T1.At "text" (.str (A++[]++[92]));rw [aS];exact h1.a,h1.o⟩;(dsimp only [pw];rw [a9];dsimp only [iterLoop]);rw [show e+(gl []).length=e from rfl,e1];rfl
 | cons RA U Qo=>obtain ⟨b0,c⟩:=RA;cases b0 with | true=>intro e A T h hl;simp only [aI] at hl;obtain ⟨T1,e1,h1⟩:=Lj (m:=m) (c:=c) (g:=g) h;obtain ⟨T',f1,f2,f3⟩:=Qo (e+2) A T1 h1 (by omega);refine ⟨T',?_,f2,f3⟩;(dsimp only [pw];rw [bc,ol e1,show e+(gl ((true,c)::U)).length=e+2+(gl U).length from by rw [qa];simp [pg,ph];omega]);exact f1 | false=>intro e A T h hl;simp only [aI] at hl;obtain ⟨T1,e1,h1⟩:=E5 (m:=m) (c:=c) (g:=g) h (by omega);obtain ⟨T',f1,f2,f3⟩:=Qo (e+1) (A++[c]) T1 h1 (by simp;omega);refine ⟨T',?_,by rw [show tB ((false,c)::U)=[c]++tB U from rfl,<-bK];exact f2,f3⟩;(dsimp only [pw];rw [bc,ol e1,show e+(gl ((false,c)::U)).length=e+1+(gl U).length from by rw [qa];simp [pg,ph];omega]);exact f1
theorem EQ:∀ {A pc:List Nat} (h:pO A=some pc),pc.length<=A.length:=by iterate 3 unfold pO at h;rw [b8] at h;obtain ⟨k,hk,rfl⟩:=ba.mp h;simp;omega
noncomputable def Qj:Expr->Expr
| .ListComp e _ _ _=>e
| _=>ex0
noncomputable def PO:Expr->Expr
| .ListComp _ [⟨t,_,_,_⟩] _ _=>t
| _=>ex0
noncomputable def PY:Expr->List Expr
| .ListComp _ [⟨_,_,i,_⟩] _ _=>i
| _=>[]
noncomputable def P7:Expr->aX
| .ListComp _ _ s _=>s
| _=> .mk .function [] false false []
noncomputable abbrev tq (m:Nat) (sc:aX) (st:St) (e:Expr):=turnL P1 m sc st (PO e) (Qj e) (PY e) (P7 e)
noncomputable def PS:Expr:=Ni (yo (at_ Pr 0)) [0]
theorem Jq:∀ {m:Nat} {A:List Nat} {cs:List D} {T:Qr} {g:G} (h1:T.At "text" (.str A)),iterLoop (tq (m+56) (fsc P1 "_law_cut") ⟨T,[],some ("codes",.lst cs)⟩ PS) [.int 3,.int 2,.int 1] [] g=some ((([3,2,1]:List Nat).filter fun k=>yx (A.take k)).map fun k=>D.str (A.take k),g,none):=by iterate 6
 refine (tW (xs:=[3,2,1]) (emb:=fun k:Nat=>D.int k) (b:=fun k=>yx (A.take k)) (F:=fun k=>D.str (A.take k)) ?_);intro k _ acc;unfold tq;have c1:cmp P1 .In (.str (slice A none (some (k:Int)))) .tab=some (yx (A.take k)):=by rw [vg];exact Ms _
 rw [<-vg];rw [<-vg] at c1;cases e:yx (slice A none (some (k:Int))) with | true=>rw [e] at c1;rw [if_pos rfl];symm | false=>rw [e] at c1;rw [if_neg (by decide)];symm
theorem JC:∀ {m:Nat} {A pc:List Nat} {c:Int} {cs:List D} {T:Qr} {g:G} (h1:T.At "text" (.str A)) (h3:T.lookup ("codes" :Str)=none) (hp:pO A=some pc) (hc:SD.lookup pc=some c) (hl:cs.length<900),∃ T',ceSs P1 (m+60) (fsc P1 "_law_cut") ⟨T,[],some ("codes",.lst cs)⟩ Pr g=some (.next,⟨T',[],some ("codes",.lst (cs++[.int c]))⟩,g)/\T'.At "text" (.str (A.drop pc.length))/\T'.lookup ("codes" :Str)=none:=by iterate 12
 have hs:subD P1 (.lst ((([3,2,1]:List Nat).filter fun k=>yx (A.take k)).map fun k=>D.str (A.take k))) (.int 0)=some (.str pc):=by refine pX (k:=0) ?_;unfold pO at hp;rw [b8] at hp ⊢;obtain ⟨k,hk,rfl⟩:=ba.mp hp;rw [hk];rfl
 have ht:=CT hc;have e1:=Jq (m:=m) (cs:=cs) (g:=g) h1;have ha:∀ d,ownMeth "append" cs [d]=some (cs++[d]):=fun d=>rE (by unfold lim;omega);have hpl:=EQ hp;have hle:((([3,2,1]:List Nat).filter fun k=>yx (A.take k)).map fun k=>D.str (A.take k)).length<=lim:=by rw [aG];exact bw (dH _ _) (by decide)
 refine ⟨("text",.str (slice A (some (pc.length:Int)) none))::("piece",.str pc)::T,?_,by rw [<-xw hpl];rfl,h3⟩;symm
 ·exact ha _
 symm
theorem JE:∀ {m:Nat} {A:List Nat} {cs:List D} {T:Qr} {g:G} (h1:T.At "text" (.str A)),ceT P1 (m+60) (fsc P1 "_law_cut") ⟨T,[],some ("codes",.lst cs)⟩ PB g=some (!(A==[92]),g):=by iterate 6 symm;rfl'
theorem Fw:∀ {m:Nat} {g:G},∀ (n N:Nat) (A:List Nat) (T:Qr) (cs:List D) (cs':List Int),uV n A=some cs'->n<=N->cs.length+n<900->T.At "text" (.str A)->T.lookup ("codes" :Str)=none->
  ∃ T',vV (fun st g=>ceT P1 (m+60) (fsc P1 "_law_cut") st PB g) (fun st g=>ceSs P1 (m+60) (fsc P1 "_law_cut") st Pr g) N ⟨T,[],some ("codes",.lst cs)⟩ g=some (.next,⟨T',[],some ("codes",.lst (cs++cs'.map D.int))⟩,g)/\T'.lookup ("codes" :Str)=none:=by iterate 2
 intro n;induction n with
 | zero=>intro _ _ _ _ _ h _ _ _ _;(dsimp only [uV] at h;simp at h)
 | succ n ih=>
  intro N A T cs cs' h hN hl h1 h3;cases N with
  | zero=>omega
  | succ N=>dsimp only [uV] at h;have e0:=JE (m:=m) (cs:=cs) (g:=g) h1;dsimp only [vV];simp only [e0,Option.bind_eq_bind,bz];cases ea:A==[92] with | true=>rw [ea,if_pos rfl] at h;cases h;exact ⟨T,by simp,h3⟩ | false=>rw [ea,if_neg (by decide)] at h;obtain ⟨pc,hp,h⟩:=gj.mp h;obtain ⟨c,hc,h⟩:=gj.mp h;obtain ⟨cs2,V2,rfl⟩:=ba.mp h;obtain ⟨T1,e1,f1,f3⟩:=JC (m:=m) (cs:=cs) (g:=g) h1 h3 hp hc (by omega);obtain ⟨T',e2,g3⟩:=ih N _ T1 (cs++[.int c]) cs2 V2 (by omega) (by simp;omega) f1 f3;refine ⟨T',?_,g3⟩;simp only [Bool.not_false,if_true,e1,bz,show Fr .next=some () from rfl];rw [e2];simp
theorem Fk:∀ {m:Nat} {U:List Un} {cs:List Int} {g:G} (h:U.all zL=true) (hb:q9 false U=true) (hl:(gl U).length<800) (hc:uV 60 (tB (ga false U)++[92])=some cs),ceCall P1 (m+80) "_law_cut" [.str (gl U)] g=some (.lst (cs.map D.int),g):=by iterate 8
 have hs:=xd (m:=m+12) (g:=g) h hb (by omega);simp only [aK,aM] at hs;have hu:=BD (AZ U false h);have VV:=CN U false;have hl3:=CY (ga false U);have YV:binop .Add (.str (gl (ga false U))) (.str [92])=some (.str (gl (ga false U)++[92])):=by have:=tN (a:=gl (ga false U)) (b:=[92]) (by simp [lim];omega);exact this
 obtain ⟨T1,e1,f1,f3⟩:=Jz (m:=m+33) (g:=g) (ga false U) 0 [] [("ends",.int 0),("text",.str []),("word",.str (gl U))] ⟨rfl,rfl,rfl⟩ (by simp;omega);rw [dM,<-hu] at e1;rw [a9] at f1;obtain ⟨T2,e2,f4⟩:=Fw (m:=m+12) (g:=g) 60 200 _ T1 [] cs hc (by omega) (by simp) f1 f3;apply im (by rfl') Mz (by rfl');symm
theorem xm:∀ {X:List Nat} {d:Nat} (hd:d∈([40,41,44,92]:List Nat)) (h:d∈X) (hl:2<=X.length),yx X=false:=by iterate 5
 have key:SD.all (fun p=>p.1.length==1 ||!(p.1.any fun c=>([40,41,44,92]:List Nat).contains c))=true:=by decide+kernel
 have:SD.lookup X=none:=by
  rw [gA];intro p hp;cases e:(X==p.1) with
  | false=>rw [bne,e];rfl
  | true=>
   have:=eq_of_beq e;subst this;have:=aj.mp key p hp;simp only [jD,beq_iff_eq,bG,lX] at this;rcases this with h1 | h1
   ·omega
   ·exact absurd (kO.mpr hd) (by simpa using h1 d h)
 rw [yx,this];rfl
theorem KT:∀ {A:List Nat} (h:yx (A.take 3)=true),pO A=some (A.take 3):=by iterate 2 simp [pO,h]
theorem Md:∀ {A:List Nat} (h3:yx (A.take 3)=false) (h:yx (A.take 2)=true),pO A=some (A.take 2):=by iterate 3 simp [pO,h,h3]
theorem HQ:∀ {A:List Nat} (h3:yx (A.take 3)=false) (h2:yx (A.take 2)=false) (h:yx (A.take 1)=true),pO A=some (A.take 1):=by iterate 4 simp [pO,h,h3,h2]
theorem HJ:∀ {o:List Nat} {d:Nat} {r:List Nat} (ho:yx o=true) (hl:1<=o.length/\o.length<=3) (hd:d∈([40,41,44,92]:List Nat)),pO (o++d::r)=some o:=by iterate 6
 rcases o with _ | ⟨a,_ | ⟨b,_ | ⟨c,_ | ⟨e,o⟩⟩⟩⟩
 ·simp at hl
 ·refine HQ (xm hd ?_ ?_) (xm hd ?_ ?_) ho
  ·simp
  ·simp
  ·simp
  ·simp
 ·refine Md (xm hd ?_ ?_) ho
  ·simp
  ·simp
 ·exact KT ho
 ·simp at hl
theorem xy:∀ {c:Nat} {r:List Nat} (hc:c∈([40,41,44,92]:List Nat)) (h1:yx [c]=true) (hr:r≠[]),pO (c::r)=some [c]:=by iterate 5
 rcases r with _ | ⟨a,r⟩
 ·exact absurd rfl hr
 ·refine HQ (xm hc ?_ ?_) (xm hc ?_ ?_) h1
  ·simp
  ·simp
  ·simp
  ·simp
theorem vy:∀ {n:Nat} {A pc:List Nat} {c:Int} {r:List Nat} {cs:List Int} (hA:A=pc++r) (Rt:A≠[92]) (hp:pO A=some pc) (hc:SD.lookup pc=some c) (h:uV n r=some cs),uV (n+1) A=some (c::cs):=by iterate 11
 have e:(A==[92])=false:=by simpa using Rt
 (dsimp only [uV];rw [e,if_neg (by decide),hp,bz,hc,bz])
 subst hA;rw [mX,h];rfl
structure Sw (u:List Un) (o:List Nat) (c:Int):Prop where
 w:u.all zL=true
 b:q9 false u=true
 s:tB (ga false u)=o
 t:SD.lookup o=some c
 l:1<=o.length/\o.length<=3
 f:c≠7/\c≠8/\c≠12
 n:40∉o/\41∉o
 k:(gl u).length<=20/\u.length<=20
 z:o≠[92]
noncomputable def BT.size (t:BT):Nat:=(t.row () () () fun _=>()).length
theorem BT.QV:∀ {l r:BT},(BT.node l r).size=l.size+r.size+3:=by iterate 2 (dsimp only [BT.size,BT.row];simp);omega
theorem BT.S9:∀ {α β:Type} (h:α->β) (o c k:α) (f:Nat->α),∀ t:BT,(t.row o c k f).map h=t.row (h o) (h c) (h k) fun i=>h (f i):=by iterate 7 intro t;induction t with | leaf i=>exact rfl | node l r TA Tz=>(dsimp only [BT.row];simp [TA,Tz])
theorem BT.Uk:∀ {α:Type} (o c k:α) (f:Nat->α) (t:BT),(t.row o c k f).length=t.size:=by iterate 6 rw [BT.size,<-BT.S9 (fun _=>()) o c k f t,aG]
noncomputable def BT.tx (t:BT) (op:Nat->List Nat):List Nat:=(t.row [40] [44] [41] op).flatten
noncomputable def BT.Q6 (t:BT) (cd:Nat->Int):List Int:=t.row 7 12 8 cd
noncomputable def BT.un (t:BT) (lf:Nat->List Un):List Un:=(t.row [(false,40)] [(false,44)] [(false,41)] lf).flatten
theorem L4:∀ {o:List Nat} {c:Int} (h:SD.lookup o=some c),yx o=true:=by iterate 3 rw [yx,h];rfl
theorem Hc:∀ {lf:Nat->List Un} {op:Nat->List Nat} {cd:Nat->Int} (ahg:∀ i,Sw (lf i) (op i) (cd i)),∀ (t:BT) (n:Nat) (r:List Nat) (cs:List Int),uV n r=some cs->(∃ d r',r=d::r'/\d∈([40,41,44,92]:List Nat))->uV (n+t.size) (t.tx op++r)=some (t.Q6 cd++cs):=by iterate 4
 intro t;induction t with
 | leaf i=>
  rintro n r cs h ⟨d,r',e,hd⟩;have hi:=ahg i;have ex:BT.tx (.leaf i) op=op i:=by (dsimp only [BT.tx,BT.row];simp)
  rw [ex];refine vy rfl ?_ ?_ hi.t h
  ·subst e;intro h1;have h2:=congrArg fj h1;have h3:=hi.l;rw [aw] at h2;simp only [aI,hG] at h2;omega
  ·rw [e];exact HJ (L4 hi.t) hi.l hd
 | node l r0 TA Tz=>
  rintro n r cs h ⟨d,r',e,hd⟩;have hr:r≠[]:=by rw [e];simp
  have h1:uV (n+1) (41::r)=some (8::cs):=vy (pc:=[41]) rfl (by simp) (xy (by simp) (by decide+kernel) hr) (by decide+kernel) h;have h2:=Tz (n+1) (41::r) (8::cs) h1 ⟨41,_,rfl,by simp⟩;have h3:uV (n+1+r0.size+1) (44::(r0.tx op++41::r))=some (12::(r0.Q6 cd++8::cs)):=vy (pc:=[44]) rfl (by simp) (xy (by simp) (by decide+kernel) (by simp)) (by decide+kernel) h2;have h4:=TA (n+1+r0.size+1) _ _ h3 ⟨44,_,rfl,by simp⟩;have h5:uV (n+1+r0.size+1+l.size+1) (40::(l.tx op++44::(r0.tx op++41::r)))=some (7::(l.Q6 cd++12::(r0.Q6 cd++8::cs))):=vy (pc:=[40]) rfl (by simp) (xy (by simp) (by decide+kernel) (by simp)) (by decide+kernel) h4;have e1:n+(BT.node l r0).size=n+1+r0.size+1+l.size+1:=by rw [BT.QV];omega
  rw [e1];have e2:(BT.node l r0).tx op++r=40::(l.tx op++44::(r0.tx op++41::r)):=by (dsimp only [BT.tx,BT.row];simp)
  have e3:(BT.node l r0).Q6 cd++cs=7::(l.Q6 cd++12::(r0.Q6 cd++8::cs)):=by (dsimp only [BT.Q6,BT.row];simp)
  rw [e2,e3];exact h5
theorem FL:∀ (U V:List Un),tB (U++V)=tB U++tB V:=by iterate 0
 intro U;induction U with
 | nil=>intro V;exact rfl
 | cons RA U Qo=>obtain ⟨b0,c⟩:=RA;cases b0 with | true=>intro V;exact Qo V | false=>intro V;exact congrArg (c::·) (Qo V)
theorem CF:∀ {l r:BT} {lf:Nat->List Un},(BT.node l r).un lf=[(false,40)]++(l.un lf++([(false,44)]++(r.un lf++[(false,41)]))):=by iterate 3 (dsimp only [BT.un,BT.row];simp)
theorem A3:∀ {lf:Nat->List Un} {op:Nat->List Nat} {cd:Nat->Int} (ahg:∀ i,Sw (lf i) (op i) (cd i)),∀ t:BT,(t.un lf).all zL=true/\q9 false (t.un lf)=true/\tB (ga false (t.un lf))=t.tx op/\(gl (t.un lf)).length<=20 * t.size:=by iterate 4
 intro t;induction t with
 | leaf i=>
  have ex:BT.tx (.leaf i) op=op i:=by (dsimp only [BT.tx,BT.row];simp)
  have eu:BT.un (.leaf i) lf=lf i:=by (dsimp only [BT.un,BT.row];simp)
  rw [ex,eu];exact ⟨(ahg i).w,(ahg i).b,(ahg i).s,(ahg i).k.1⟩
 | node l r TA Tz=>
  obtain ⟨a1,b1,c1,d1⟩:=TA;obtain ⟨a2,b2,c2,d2⟩:=Tz;have bb:∀ c:Nat,c≠34->q9 false [(false,c)]=true:=fun c h=>by rw [uN (by simpa [qu] using h)];rfl
  have ss:∀ c:Nat,c≠34->ga false [(false,c)]=[(false,c)]:=fun c h=>by rw [pK (by simpa [qu] using h)];rfl
  rw [CF];have e1:=qB (V:=l.un lf++([(false,44)]++(r.un lf++[(false,41)]))) [(false,40)] false (bb 40 (by decide));have e2:=qB (V:=[(false,44)]++(r.un lf++[(false,41)])) (l.un lf) false b1;have e3:=qB (V:=r.un lf++[(false,41)]) [(false,44)] false (bb 44 (by decide));have e4:=qB (V:=[(false,41)]) (r.un lf) false b2;refine ⟨?_,?_,?_,?_⟩
  ·simp [a1,a2,zL]
  ·rw [e1.2,e2.2,e3.2,e4.2];exact bb 41 (by decide)
  ·rw [e1.1,e2.1,e3.1,e4.1,ss 40 (by decide),ss 44 (by decide),ss 41 (by decide)];simp only [FL,c1,c2];(dsimp only [tB,BT.tx,BT.row];simp)
  ·rw [BT.QV];simp only [qQ,aw];simp [gl,pg,ph] at d1 d2 ⊢;omega
theorem FI:∀ {m:Nat} {lf:Nat->List Un} {op:Nat->List Nat} {cd:Nat->Int} {t:BT} {g:G} (ahg:∀ i,Sw (lf i) (op i) (cd i)) (hs:t.size<=30),ceCall P1 (m+80) "_law_cut" [.str (gl (t.un lf))] g=some (.lst ((t.Q6 cd).map D.int),g):=by iterate 8
 obtain ⟨a1,b1,c1,d1⟩:=A3 ahg t;refine Fk a1 b1 (by omega) ?_;rw [c1];obtain ⟨k,hk⟩:∃ k,60=k+1+t.size:=⟨59-t.size,by omega⟩
 have h0:uV (k+1) [92]=some []:=rfl;have:=Hc ahg t (k+1) [92] [] h0 ⟨92,[],rfl,by simp⟩;rw [hk,this,aS]
noncomputable def dep:Nat->List Int->Option Nat
| n,[]=>some n
| n,c::r=>if c=7 then dep (n+1) r else if c=8 then (match n with
  | 0=>none
  | n+1=>dep n r) else dep n r
theorem qY (n:Nat) (c:Int) (r:List Int):dep n (c::r)=if c=7 then dep (n+1) r else if c=8 then (match n with
  | 0=>none
  | n+1=>dep n r) else dep n r:=by cases n<;>rfl
theorem w8:∀ (a b:List Int) (n:Nat),dep n (a++b)=(dep n a).bind fun m=>dep m b:=by iterate 0
 intro a;induction a with
 | nil=>intro b n;exact rfl
 | cons c a Qo=>
  intro b n;rw [bc,qY,qY];split
  ·exact Qo b _
  ·split
   ·cases n with | zero=>rfl | succ n=>exact Qo b _
   ·exact Qo b _
structure Z8 (p:List Un×Int):Prop where
 w:p.1.all zL=true
 b:q9 false p.1=true
 o:p.2=7->ga false p.1=[(false,40)]
 c:p.2=8->ga false p.1=[(false,41)]
 n:p.2≠7->p.2≠8->40∉tB (ga false p.1)/\41∉tB (ga false p.1)
 k:p.1.length<=20/\(gl p.1).length<=20
theorem sM:∀ (S:List Un) (n:Nat) (R:List Un),40∉tB S->41∉tB S->tn n (S++R)=tn n R:=by iterate 0
 intro S;induction S with
 | nil=>intro n R _ _;exact rfl
 | cons RA S Qo=>obtain ⟨b0,c⟩:=RA;cases b0 with | true=>intro n R h1 h2;rw [bc,v4 (by simp [pg,ph]) (by simp [pg,ph])];exact Qo n R h1 h2 | false=>intro n R h1 h2;(dsimp only [tB] at h1 h2;simp only [aq,not_or] at h1 h2);rw [bc,v4 (by simp [pg,ph];exact fun e=>h1.1 e.symm) (by simp [pg,ph];exact fun e=>h2.1 e.symm)];exact Qo n R h1.2 h2.2
theorem Hw:∀ (P:List (List Un×Int)) (n:Nat),(∀ p∈P,Z8 p)->tn n (ga false (P.flatMap (·.1)))=(dep n (P.map (·.2))==some 0)/\q9 false (P.flatMap (·.1))=true/\(P.flatMap (·.1)).all zL=true/\(gl (P.flatMap (·.1))).length<=20 * P.length:=by iterate 0
 intro P;induction P with
 | nil=>intro n _;cases n<;>exact ⟨rfl,rfl,rfl,by simp [gl]⟩
 | cons p P Qo=>
  intro n h;have hp:=h p (by simp);have ih:=fun n=>Qo n fun q hq=>h q (by simp [hq]);have e:=qB (V:=P.flatMap (·.1)) p.1 false hp.b;rw [iO,e.1,e.2];refine ⟨?_,(ih n).2.1,?_,?_⟩
  ·rw [aB,qY];split
   ·rename_i h7;rw [hp.o h7,<-(ih (n+1)).1];cases n<;>rfl
   ·split
    ·rename_i h8;rw [hp.c h8];cases n with | zero=>rfl | succ n=>rw [<-(ih n).1];rfl
    ·rename_i h7 h8;have hn:=hp.n h7 h8;rw [sM _ _ _ hn.1 hn.2];exact (ih n).1
  ·rw [jC,hp.w,(ih n).2.2.1];rfl
  ·have:=(ih n).2.2.2;have:=hp.k;rw [qQ,aw,aI];omega
theorem yb:∀ {l r:BT} {cd:Nat->Int},(BT.node l r).Q6 cd=7::(l.Q6 cd++12::(r.Q6 cd++[8])):=by iterate 3 (dsimp only [BT.Q6,BT.row];simp)
theorem vz:∀ {t:BT} {cd:Nat->Int},(t.Q6 cd).length=t.size:=by iterate 2 exact (BT.Uk ..)
theorem AJ:∀ {cd:Nat->Int} (ahg:∀ i,cd i≠7/\cd i≠8/\cd i≠12),∀ (t:BT) (n:Nat),dep n (t.Q6 cd)=some n:=by iterate 2 intro t;induction t with | leaf i=>intro n;(dsimp only [BT.Q6,BT.row,dep];simp [ahg i]) | node l r TA Tz=>intro n;rw [yb,qY,if_pos rfl,w8,TA,bz,qY,if_neg (by decide),if_neg (by decide),w8,Tz];rfl
theorem yL:∀ {cd:Nat->Int} (ahg:∀ i,cd i≠7/\cd i≠8/\cd i≠12),∀ (t:BT) (n j:Nat),(t.Q6 cd)[j]? =some 12->∃ m,n<m/\dep n ((t.Q6 cd).take j)=some m:=by iterate 2
 intro t;induction t with
 | leaf i=>intro n j h;cases j with | zero=>(dsimp only [BT.Q6,BT.row] at h;simp at h);exact absurd h (ahg i).2.2 | succ j=>(dsimp only [BT.Q6,BT.row] at h;simp at h)
 | node l r TA Tz=>
  intro n j h;rw [yb] at h ⊢;cases j with
  | zero=>simp at h
  | succ j=>
   rw [cL] at h;rw [dh,qY,if_pos rfl];by_cases h1:j<(l.Q6 cd).length
   ·rw [bg h1] at h;obtain ⟨m,h2,h3⟩:=TA (n+1) j h;exact ⟨m,by omega,by rw [bZ (by omega)];exact h3⟩
   ·rw [aT (by omega)] at h;obtain ⟨i,hi⟩:∃ i,j=(l.Q6 cd).length+i:=⟨j-(l.Q6 cd).length,by omega⟩
    subst hi;rw [eC] at h;rw [jz,w8,AJ ahg l,bz];cases i with
    | zero=>exact ⟨n+1,by omega,by rfl⟩
    | succ i=>
     rw [cL] at h;rw [dh,qY,if_neg (by decide),if_neg (by decide)];by_cases h4:i<(r.Q6 cd).length
     ·rw [bg h4] at h;obtain ⟨m,h5,h6⟩:=Tz (n+1) i h;exact ⟨m,by omega,by rw [bZ (by omega)];exact h6⟩
     ·rw [aT (by omega)] at h;generalize i-(r.Q6 cd).length=q at h;cases q<;>simp at h
noncomputable def Bh (cs:List Int) (k:Nat):Bool:=cs[k]? ==some 12&&dep 0 ((cs.take k).drop 1)==some 0
theorem JF:∀ {cd:Nat->Int} (ahg:∀ i,cd i≠7/\cd i≠8/\cd i≠12) (l r:BT) (k:Nat),Bh ((BT.node l r).Q6 cd) k=(k==l.size+1):=by iterate 5
 rw [<-vz (t:=l) (cd:=cd)];unfold Bh;rw [yb];cases k with
 | zero=>rfl
 | succ j=>
  rw [cL,dh,List.drop_one,List.tail_cons];by_cases h1:j<(l.Q6 cd).length
  ·rw [bg h1,bZ (by omega)];have Rt:(j+1==(l.Q6 cd).length+1)=false:=by simp;omega
   rw [Rt];cases e:((l.Q6 cd)[j]? ==some 12) with | false=>rfl | true=>obtain ⟨m,h2,h3⟩:=yL ahg l 0 j (eq_of_beq e);rw [h3];simp;omega
  ·rw [aT (by omega)];obtain ⟨i,hi⟩:∃ i,j=(l.Q6 cd).length+i:=⟨j-(l.Q6 cd).length,by omega⟩
   subst hi;rw [eC,jz,w8,AJ ahg l,bz];cases i with
   | zero=>show (true&&true)=_;simp
   | succ i=>
    have Rt:((l.Q6 cd).length+(i+1)+1==(l.Q6 cd).length+1)=false:=by simp
    rw [Rt,cL,dh,qY,if_neg (by decide),if_neg (by decide)];by_cases h4:i<(r.Q6 cd).length
    ·rw [bg h4,bZ (by omega)];cases e:((r.Q6 cd)[i]? ==some 12) with | false=>rfl | true=>obtain ⟨m,h5,h6⟩:=yL ahg r 0 i (eq_of_beq e);rw [h6];simp;omega
    ·rw [aT (by omega)];generalize i-(r.Q6 cd).length=q;cases q<;>simp
theorem Cy:∀ (q:Nat),∀ n,(aN n).filter (fun k=>k==q)=if q<n then [q] else []:=by iterate 1
 intro n;induction n with
 | zero=>simp
 | succ n Qo=>
  rw [dF,iF,Qo];by_cases h1:q<n
  ·have:(n==q)=false:=by simp;omega
   simp [h1,this];omega
  ·by_cases h2:q=n
   ·subst h2;simp
   ·have:(n==q)=false:=by simp;omega
    simp [h1,this];omega
theorem Iq:∀ {cd:Nat->Int} (ahg:∀ i,cd i≠7/\cd i≠8/\cd i≠12) (l r:BT),(aN ((BT.node l r).Q6 cd).length).filter (Bh ((BT.node l r).Q6 cd))=[l.size+1]:=by iterate 4 have:Bh ((BT.node l r).Q6 cd)=fun k=>k==l.size+1:=funext fun k=>JF ahg l r k;rw [this,Cy,vz,BT.QV,if_pos (by omega)]
noncomputable def BT.nm (t:BT) (cd:Nat->Int) (n:Nat):Int:=match t with
| .leaf i=>cd i
| .node _ _=>256+n
noncomputable def BT.Qz (cd:Nat->Int):BT->Nat->List (List D)
| .leaf _,_=>[]
| .node l r,n=>[.int (l.nm cd (n+1)),.int (r.nm cd (n+1+(l.Qz cd (n+1)).length))]::(l.Qz cd (n+1)++r.Qz cd (n+1+(l.Qz cd (n+1)).length))
noncomputable def BT.Q7 (t:BT) (lf:Nat->List Un) (cd:Nat->Int):List (List Un×Int):=t.row ([(false,40)],7) ([(false,44)],12) ([(false,41)],8) fun i=>(lf i,cd i)
theorem yf:∀ {l r:BT} {lf:Nat->List Un} {cd:Nat->Int},(BT.node l r).Q7 lf cd=([(false,40)],7)::(l.Q7 lf cd++([(false,44)],12)::(r.Q7 lf cd++[([(false,41)],8)])):=by iterate 4 (dsimp only [BT.Q7,BT.row];simp)
theorem zH:∀ {t:BT} {lf:Nat->List Un} {cd:Nat->Int},(t.Q7 lf cd).length=t.size:=by iterate 3 exact (BT.Uk ..)
theorem Dx:∀ {t:BT} {lf:Nat->List Un} {cd:Nat->Int},(t.Q7 lf cd).map (·.2)=t.Q6 cd:=by iterate 3 exact (BT.S9 ..)
theorem JL:∀ {c:Nat} (h:c≠34),q9 false [(false,c)]=true:=by iterate 2 rw [uN (by simpa [qu] using h)];rfl
theorem zB:∀ {c:Nat} (h:c≠34),ga false [(false,c)]=[(false,c)]:=by iterate 2 rw [pK (by simpa [qu] using h)];rfl
theorem K4:∀ {lf:Nat->List Un} {op:Nat->List Nat} {cd:Nat->Int} (ahg:∀ i,Sw (lf i) (op i) (cd i)),∀ (t:BT),∀ p∈t.Q7 lf cd,Z8 p:=by iterate 4
 intro t;induction t with
 | leaf i=>intro p hp;(dsimp only [BT.Q7,BT.row] at hp;simp only [ej] at hp);subst hp;have h:=ahg i;exact ⟨h.w,h.b,fun e=>absurd e h.f.1,fun e=>absurd e h.f.2.1,fun _ _=>by rw [h.s];exact h.n,⟨h.k.2,h.k.1⟩⟩
 | node l r TA Tz=>
  intro p hp;rw [yf] at hp;simp only [aq,bF,aO,or_false] at hp;rcases hp with rfl | hp | rfl | hp | rfl
  ·exact ⟨rfl,JL (by decide),fun _=>zB (by decide),fun e=>absurd e (by decide),fun e=>absurd rfl e,by decide⟩
  ·exact TA p hp
  ·exact ⟨rfl,JL (by decide),fun e=>absurd e (by decide),fun e=>absurd e (by decide),fun _ _=>by rw [zB (by decide)];decide,by decide⟩
  ·exact Tz p hp
  ·exact ⟨rfl,JL (by decide),fun e=>absurd e (by decide),fun _=>zB (by decide),fun _ e=>absurd rfl e,by decide⟩
theorem NB:∀ {p:bY} {n kk l:Nat} {sc:aX} {st:St} {g g1 g2:G} {m t:Str} {ap cp sp lp pos tp:Pos} {es:List Expr} {i:Expr} {k:D} {xs ys:List D} {ob:MO} {rows:List (List D)} (hm:(m==("extend" :Str)&&ap.endLine==cp.line)=true) (h1:ceE p n sc st (.Name t tp) g=some (.loc l,g1)) (h2:ceE p n sc st i g1=some (k,g2)) (hk:qx k=some kk) (h3:wc p sc st es=some ys) (h4:g2[l]? =some ob) (h5:sN ob=some rows) (h6:rows[kk]? =some xs) (h7:(xs++ys).length<=lim),ceS p (n+1) sc st (.Expr (.Call (.Attribute (.Subscript (.Name t tp) i sp) m ap) [.List es lp] [] cp) pos) g=some (.next,st,g2.set l (.Qz (rows.set kk (xs++ys)))):=by iterate 33 exact (f8 (oR hm) (f8 h1 (f8 rfl (f8 h2 (f8 hk (f8 h3 (f8 h4 (f8 h5 (f8 h6 (f8 (oR (decide_eq_true h7)) rfl))))))))))
theorem Dm:pd P1 "_law_read" =some ⟨["pieces","codes","table"],fsc P1 "_law_read",fb P1 "_law_read"⟩:=by iterate 0 rfl'
noncomputable def pD (P:List (List Un×Int)):List D:=P.map fun p=> .str (gl p.1)
noncomputable def cD (P:List (List Un×Int)):List D:=P.map fun p=> .int p.2
noncomputable def PL:Expr:=yo (at_ (fb P1 "_law_read") 3)
theorem AT:∀ {α:Type} {A:List α} {a b:Nat} (h1:a<=b) (h2:b<=A.length),slice A (some (a:Int)) (some (b:Int))=(A.take b).drop a:=by iterate 6
 have h3:¬ ((a:Int)<0):=by omega
 have h4:¬ ((b:Int)<0):=by omega
 simp only [slice,o7,oU,pN,h3,h4,if_false,aP];rw [dN h2,dN (by omega)]
theorem ED:∀ {α:Type} {A:List α} {a:Nat} (h1:a+1<=A.length),slice A (some (a:Int)) (some (-1))=(A.take (A.length-1)).drop a:=by iterate 4
 have h3:¬ ((a:Int)<0):=by omega
 have h4:((-1:Int)<0):=by omega
 simp only [slice,o7,oU,pN,h3,h4,if_false,if_true,aP];rw [dN (by omega),show (-1+(A.length:Int)).toNat=A.length-1 from by omega]
theorem AS:∀ P:List (List Un×Int),(P.map fun p=>gl p.1).flatten=gl (P.flatMap (·.1)):=by iterate 0 intro P;induction P with | nil=>exact rfl | cons p P Qo=>rw [aB,lW,iO,qQ,Qo]
theorem zr:∀ {P:List (List Un×Int)} {g:G} (h:(gl (P.flatMap (·.1))).length<=lim),methD "join" (.str []) [.lst (pD P)] g=some (.str (gl (P.flatMap (·.1))),g):=by iterate 3 have:=zT (rs:=P.map fun p=>gl p.1) (g:=g) (by rw [AS];exact h);rw [AS,b7] at this;exact this
theorem IP:∀ {m:Nat} {P:List (List Un×Int)} {T:Qr} {g:G} (hP:∀ p∈P,Z8 p) (hl:P.length<=30) (h1:T.At "pieces" (.lst (pD P))) (h2:T.At "codes" (.lst (cD P))),iterLoop (tq (m+84) (fsc P1 "_law_read") ⟨T,[],none⟩ PL) ((aN P.length).map fun k:Nat=>D.int k) [] g=some (((aN P.length).filter (Bh (P.map (·.2)))).map fun k:Nat=>D.int k,g,none):=by iterate 8
 refine tW (b:=Bh (P.map (·.2))) (F:=fun k:Nat=>D.int k) ?_;intro k hk acc;have hk:=cz.mp hk;unfold tq;have hs:subD P1 (.lst (cD P)) (.int (k:Int))=some (.int P[k].2):=pX (by simp [cD,hk]);have ht:subD P1 .tab (.str [44])=some (.int 12):=CT (by decide+kernel);have hm:Bh (P.map (·.2)) k=(P[k].2==12&&dep 0 (((P.map (·.2)).take k).drop 1)==some 0):=by unfold Bh;rw [b8,au hk];rfl
 rw [hm];cases e:(P[k].2==12) with
 | false=>rw [j2,if_neg (by decide)];symm
 | true=>
  rw [Bool.true_and];have YH:k≠0\/k=0:=by omega
  have ZE:slice (pD P) (some 1) (some (k:Int))=pD ((P.take k).drop 1):=by
   by_cases h0:k=0
   ·subst h0;simp [slice,o7,oU,pN,pD]
   ·rw [show (1:Int)=((1:Nat):Int) from rfl,AT (by omega) (by simp [pD];omega)];simp [pD,kn]
  have hQ:∀ p∈(P.take k).drop 1,Z8 p:=fun p hp=>hP p (cZ (eZ hp));obtain ⟨d1,d2,d3,d4⟩:=Hw ((P.take k).drop 1) 0 hQ;have hll:((P.take k).drop 1).length<=30:=by simp;omega
  have hj:=zr (P:=(P.take k).drop 1) (g:=g) (by unfold lim;omega);rw [<-ZE] at hj;have hc:=uH (m:=m+8) (g:=g) d3 d2 (by omega);simp only [aK,aM] at hc;rw [d1] at hc;rw [<-kn,<-nq];generalize (dep 0 (((P.take k).drop 1).map (·.2))==some 0)=b at hc;cases b with | true=>rw [if_pos rfl];symm | false=>rw [if_neg (by decide)];symm
theorem Gk:∀ {P:List (List Un×Int)},(pD P).length=P.length:=by iterate 1 simp [pD]
theorem Hq:∀ {P:List (List Un×Int)},(cD P).length=P.length:=by iterate 1 simp [cD]
theorem HO:∀ {α:Type} {a b:α} {x y:List α},slice (a::(x++b::y)) (some (1:Int)) (some ((x.length+1:Nat):Int))=x:=by iterate 5 rw [show (1:Int)=((1:Nat):Int) from rfl,AT (by omega) (by simp)];simp
theorem GP:∀ {α:Type} {a b c:α} {x y:List α},slice (a::(x++b::(y++[c]))) (some ((x.length+2:Nat):Int)) (some (-1))=y:=by iterate 6
 rw [ED (by simp)];have e1:(a::(x++b::(y++[c]))).length-1=(a::(x++b::y)).length:=by simp;omega
 have e2:a::(x++b::(y++[c]))=(a::(x++b::y))++[c]:=by simp
 rw [e1,e2,List.take_left];have e3:a::(x++b::y)=(a::(x++[b]))++y:=by simp
 rw [e3,eT (by simp),gR (by simp),a9]
theorem JN:∀ {α:Type} {a:List (List α)} {x y:List α} {b:List (List α)},(a++x::b).set a.length y=a++y::b:=by iterate 5 rw [g0 _ _ (by omega),iW];rfl
theorem BX:∀ {n j:Nat} {g:G} {rows:List (List D)} (hn:30<=n) (h:g[j]? =some (.Qz rows)),ceCall P1 (n+1) "len" [.loc j] g=some (.int rows.length,g):=by iterate 6 refine qM (h:=Bu) (by rfl') hn ?_;show (g[j]?.bind _).bind _=_;rw [h];rfl
theorem Jt:∀ (cd:Nat->Int),∀ (t:BT) (n:Nat),(t.Qz cd n).length<=t.size:=by iterate 1 intro t;induction t with | leaf _=>intro _;(dsimp only [BT.Qz];simp) | node l r TA Tz=>intro n;have:=TA (n+1);have:=Tz (n+1+(l.Qz cd (n+1)).length);(rw [BT.QV];dsimp only [BT.Qz];rw [aI,aw]);omega
theorem Lo:∀ {p:bY} {n kk l:Nat} {sc:aX} {st:St} {g:G} {m t:Str} {ap cp sp lp pos tp:Pos} {es:List Expr} {i:Expr} {k:D} {xs ys:List D} {ob:MO} {rows:List (List D)} (hm:(m==("extend" :Str)&&ap.endLine==cp.line)=true) (h1:ceE p n sc st (.Name t tp) g=some (.loc l,g)) (h2:ceE p n sc st i g=some (k,g)) (hk:qx k=some kk) (h3:wc p sc st es=some ys) (h4:g[l]? =some ob) (h5:sN ob=some rows) (h6:rows[kk]? =some xs) (h7:(xs++ys).length<=lim),ceS p (n+1) sc st (.Expr (.Call (.Attribute (.Subscript (.Name t tp) i sp) m ap) [.List es lp] [] cp) pos) g=some (.next,st,g.set l (.Qz (rows.set kk (xs++ys)))):=by iterate 31 exact (NB hm h1 h2 hk h3 h4 h5 h6 h7)
theorem CU:∀ {lf:Nat->List Un} {op:Nat->List Nat} {cd:Nat->Int} (ahg:∀ i,Sw (lf i) (op i) (cd i)),∀ (t:BT) (N j:Nat) (g:G) (rows:List (List D)),90+11 * t.dep<=N->t.size<=30->g[j]? =some (.Qz rows)->rows.length+t.size<=200->
  ceCall P1 N "_law_read" [.lst (pD (t.Q7 lf cd)),.lst (cD (t.Q7 lf cd)),.loc j] g=some (.int (t.nm cd rows.length),g.set j (.Qz (rows++t.Qz cd rows.length))):=by iterate 4
 intro t;induction t with
 | leaf i=>
  intro N j g rows hN hs hg hr;obtain ⟨k,rfl⟩:∃ k,N=k+90:=⟨N-90,by omega⟩
  have eg:g.set j (.Qz (rows++BT.Qz cd (.leaf i) rows.length))=g:=by obtain ⟨hj,he⟩:=ak.mp hg;(dsimp only [BT.Qz];simp [<-he])
  rw [eg];apply im (by rfl') Dm (by rfl');symm
 | node l r TA Tz=>
  intro N j g rows hN hs hg hr;have hdl:l.dep<=max l.dep r.dep:=Nat.le_max_left ..;have ZS:r.dep<=max l.dep r.dep:=Nat.le_max_right ..;have hN':90+11 * (max l.dep r.dep+1)<=N:=hN;obtain ⟨k,rfl⟩:∃ k,N=k+101:=⟨N-101,by omega⟩
  have hP:=K4 ahg (.node l r);have hlen:=zH (t:= .node l r) (lf:=lf) (cd:=cd);have TZ:=Iq (cd:=cd) (fun i=>(ahg i).f.imp id fun h=>⟨h.1,h.2⟩) l r;rw [vz,<-Dx (lf:=lf)] at TZ;have e3:=fun T h1 h2=>IP (m:=k+10) (T:=T) (g:=g.set j (.Qz (rows++[[]]))) hP (by rw [hlen];exact hs) h1 h2;rw [hlen,TZ] at e3;rw [BT.QV] at hs hr;have RO:rows.length<lim:=by unfold lim;omega
  have ecd:cD ((BT.node l r).Q7 lf cd)= .int 7::(cD (l.Q7 lf cd)++ .int 12::(cD (r.Q7 lf cd)++[.int 8])):=by rw [yf];simp [cD]
  have epd:pD ((BT.node l r).Q7 lf cd)= .str (gl [(false,40)])::(pD (l.Q7 lf cd)++ .str (gl [(false,44)])::(pD (r.Q7 lf cd)++[.str (gl [(false,41)])])):=by rw [yf];simp [pD]
  have lA:(pD ((BT.node l r).Q7 lf cd)).length=l.size+r.size+3:=by rw [Gk,hlen,BT.QV]
  have lB:(cD ((BT.node l r).Q7 lf cd)).length=l.size+r.size+3:=by rw [Hq,hlen,BT.QV]
  have xl:(pD (l.Q7 lf cd)).length=l.size:=by rw [Gk,zH]
  have yl:(cD (l.Q7 lf cd)).length=l.size:=by rw [Hq,zH]
  have s1:slice (pD ((BT.node l r).Q7 lf cd)) (some 1) (some ((l.size+1:Nat):Int))=pD (l.Q7 lf cd):=by rw [epd,<-xl];exact HO
  have s2:slice (cD ((BT.node l r).Q7 lf cd)) (some 1) (some ((l.size+1:Nat):Int))=cD (l.Q7 lf cd):=by rw [ecd,<-yl];exact HO
  have s3:slice (pD ((BT.node l r).Q7 lf cd)) (some (((l.size+1:Nat):Int)+1)) (some (-1))=pD (r.Q7 lf cd):=by rw [epd,<-xl];exact GP
  have s4:slice (cD ((BT.node l r).Q7 lf cd)) (some (((l.size+1:Nat):Int)+1)) (some (-1))=cD (r.Q7 lf cd):=by rw [ecd,<-yl];exact GP
  have hj:j<g.length:=(ak.mp hg).1;have g1j:(g.set j (.Qz (rows++[[]])))[j]? =some (.Qz (rows++[[]])):=by simp [hj]
  have tl1:=Jt cd l (rows.length+1);have ihl:=TA (k+91) j _ (rows++[[]]) (by omega) (by omega) g1j (by simp;omega);have el1:(rows++[[]]).length=rows.length+1:=by simp
  rw [el1,gZ] at ihl;have g2j:(g.set j (.Qz (rows++[[]]++l.Qz cd (rows.length+1))))[j]? =some (.Qz (rows++[[]]++l.Qz cd (rows.length+1))):=by simp [hj]
  have ihr:=Tz (k+90) j _ _ (by omega) (by omega) g2j (by simp;omega);have el2:(rows++[[]]++l.Qz cd (rows.length+1)).length=rows.length+1+(l.Qz cd (rows.length+1)).length:=by simp;omega
  rw [el2,gZ] at ihr;have g3j:(g.set j (.Qz (rows++[[]]++l.Qz cd (rows.length+1)++r.Qz cd (rows.length+1+(l.Qz cd (rows.length+1)).length))))[j]? =some (.Qz (rows++[[]]++l.Qz cd (rows.length+1)++r.Qz cd (rows.length+1+(l.Qz cd (rows.length+1)).length))):=by simp [hj]
  have VS:(rows++[[]]++l.Qz cd (rows.length+1)++r.Qz cd (rows.length+1+(l.Qz cd (rows.length+1)).length))[rows.length]? =some []:=by rw [bK,bK,aT (by omega),iW];rfl
  have eg:g.set j (.Qz (rows++(BT.node l r).Qz cd rows.length))=(g.set j (.Qz (rows++[[]]++l.Qz cd (rows.length+1)++r.Qz cd (rows.length+1+(l.Qz cd (rows.length+1)).length)))).set j (.Qz ((rows++[[]]++l.Qz cd (rows.length+1)++r.Qz cd (rows.length+1+(l.Qz cd (rows.length+1)).length)).set rows.length ([]++[D.int (l.nm cd (rows.length+1)),D.int (r.nm cd (rows.length+1+(l.Qz cd (rows.length+1)).length))]))):=by rw [gZ,bK,bK,kL,JN];rfl
  rw [eg];have hix:qx (.int (256+(rows.length:Int)-256))=some rows.length:=by rw [show (256+(rows.length:Int)-256)=(rows.length:Int) from by omega];exact f8 rfl (if_pos (az rows.length))
  rw [<-s1,<-s2] at ihl;rw [<-s3,<-s4] at ihr;have hit:=qe (k:=(cD ((BT.node l r).Q7 lf cd)).length) (by unfold lim;omega);have c0:(((cD ((BT.node l r).Q7 lf cd)).length:Int)==1)=false:=by rw [lB];simp;omega
  have elx:(BT.node l r).size=(cD ((BT.node l r).Q7 lf cd)).length:=by rw [lB,BT.QV]
  rw [elx] at e3;clear hP hlen TZ ecd epd lA lB xl yl s1 s2 s3 s4 elx;generalize pD ((BT.node l r).Q7 lf cd)=A at *;generalize cD ((BT.node l r).Q7 lf cd)=B at *;rw [show (BT.node l r).nm cd rows.length=256+(rows.length:Int) from rfl];generalize r.Qz cd (rows.length+1+(l.Qz cd (rows.length+1)).length)=R2 at *;generalize r.nm cd (rows.length+1+(l.Qz cd (rows.length+1)).length)=n2 at *;generalize l.Qz cd (rows.length+1)=R1 at *;generalize l.nm cd (rows.length+1)=n1 at *;have hl1:=BX (n:=k+94) (by omega) hg;have e4:=e3 [("name",.int (256+(rows.length:Int))),("pieces",.lst A),("codes",.lst B),("table",.loc j)] rfl rfl;clear e3;apply im (by rfl') Dm (by rfl');symm
  ·refine Lo (ys:=[.int n1,.int n2]) (by rfl') ?_ ?_ hix ?_ g3j rfl VS (by simp [lim]);symm
  symm
theorem N9:pd P1 "_law_heaps" =some ⟨["script"],fsc P1 "_law_heaps",fb P1 "_law_heaps"⟩:=by iterate 0 rfl'
noncomputable def PH:Expr:=D3 (at_ (fb P1 "_law_heaps") 1)
noncomputable def Pu:List Stmt:=p7 (at_ (fb P1 "_law_heaps") 1)
theorem Ih:∀ {m k:Nat} {T:Qr} {zs0 xs:List Int} {g:G} (h1:T.At "script" (.lst (zs0.map D.int))) (h2:T.lookup ("heaps" :Str)=none) (hk:k<zs0.length) (hx:xs.length=4),∃ (T':Qr) (ys:List Int),turnF P1 (m+40) (fsc P1 "_law_heaps") PH Pu (.int k) ⟨T,[],some ("heaps",.lst (xs.map D.int))⟩ g=some (⟨T',[],some ("heaps",.lst (ys.map D.int))⟩,g,none)/\ys.length=4/\T'.At "script" (.lst (zs0.map D.int))/\T'.lookup ("heaps" :Str)=none:=by iterate 10
 have e:aQ (k:Int) 4=((k % 4:Nat):Int):=by rw [aU _ (by decide)];rfl
 have hi:qx (.int (aQ (k:Int) 4))=some (k % 4):=by rw [e];exact f8 (show oN (.int ((k % 4:Nat):Int))=some _ from rfl) (if_pos (az _))
 have RO:k % 4<4:=bR _ (by decide);have ha:(xs.map D.int)[k % 4]? =some (.int (xs.getD (k % 4) 0)):=by simp [au (show k % 4<xs.length by omega)]
 have hs:subD P1 (.lst (zs0.map D.int)) (.int (k:Int))=some (.int (zs0.getD k 0)):=pX (by simp [hk]);refine ⟨("k",.int k)::T,xs.set (k % 4) (xs.getD (k % 4) 0+zs0.getD k 0),?_,by simp [hx],h1,h2⟩;rw [List.map_set];symm
theorem JD:∀ {m:Nat} {zs0:List Int} {g:G},∀ (ks:List Nat) (T:Qr) (xs:List Int),(∀ k∈ks,k<zs0.length)->T.At "script" (.lst (zs0.map D.int))->T.lookup ("heaps" :Str)=none->xs.length=4->
  ∃ (T':Qr) (ys:List Int),iterLoop (turnF P1 (m+40) (fsc P1 "_law_heaps") PH Pu) (ks.map fun k:Nat=>D.int k) ⟨T,[],some ("heaps",.lst (xs.map D.int))⟩ g=some (⟨T',[],some ("heaps",.lst (ys.map D.int))⟩,g,none)/\ys.length=4/\T'.At "script" (.lst (zs0.map D.int))/\T'.lookup ("heaps" :Str)=none:=by iterate 3
 intro ks;induction ks with | nil=>intro T xs _ h1 h2 h3;exact ⟨T,xs,rfl,h3,h1,h2⟩ | cons k ks Qo=>intro T xs h h1 h2 h3;obtain ⟨T1,ys,e1,f1,f2,f3⟩:=Ih (m:=m) (g:=g) h1 h2 (h k (by simp)) h3;obtain ⟨T',zs,e2,f4⟩:=Qo T1 ys (fun q hq=>h q (by simp [hq])) f2 f3 f1;refine ⟨T',zs,?_,f4⟩;rw [aB,ol e1];exact e2
theorem JU:∀ {n:Nat} {f:Str} {ds:List D} {g:G} {r r':D} (h:ceCall P1 n f ds g=some (r,g)) (e:r=r'),ceCall P1 n f ds g=some (r',g):=by iterate 8 rw [h,e]
theorem vd:∀ (a:Int),∃ n:Nat,aQ a 1000000000000=n/\n<1000000000000:=by iterate 1 have h:=cy a (show (0:Int)<1000000000000 by decide);have h2:=cV a (show (0:Int)<1000000000000 by decide);exact ⟨(aQ a 1000000000000).toNat,by omega,by omega⟩
theorem E7:∀ {m:Nat} {zs0:List Int} {g:G} (hl:zs0.length<=63),∃ a b c d:Nat,ceCall P1 (m+60) "_law_heaps" [.lst (zs0.map D.int)] g=some (.lst [.int a,.int b,.int c,.int d],g)/\a<1000000000000/\b<1000000000000/\c<1000000000000/\d<1000000000000:=by iterate 4
 obtain ⟨T',ys,e1,f1,f2,f3⟩:=JD (m:=m+15) (zs0:=zs0) (g:=g) (aN zs0.length) [("script",.lst (zs0.map D.int))] [2040,35755,228,940] (fun k hk=>cz.mp hk) rfl rfl rfl;obtain ⟨x,y,z,u,rfl⟩:∃ x y z u,ys=[x,y,z,u]:=by rcases ys with _ | ⟨x,_ | ⟨y,_ | ⟨z,_ | ⟨u,_ | ⟨v,r⟩⟩⟩⟩⟩<;>simp at f1;exact ⟨_,_,_,_,rfl⟩
 obtain ⟨a,ha,ha2⟩:=vd x;obtain ⟨b,hb,hb2⟩:=vd y;obtain ⟨c,hc,V2⟩:=vd z;obtain ⟨d,hd,hd2⟩:=vd u;refine ⟨a,b,c,d,?_,ha2,hb2,V2,hd2⟩;rw [<-ha,<-hb,<-hc,<-hd];have hit:=qe (k:=(zs0.map D.int).length) (by simp [lim];omega);have ell:(zs0.map D.int).length=zs0.length:=by simp
 rw [<-ell] at e1;clear ha hb hc hd;apply JU
 ·apply im (by rfl') N9 (by rfl');apply ss_step
  ·run_tac Wk.ceT
  ·apply ss_step
   ·apply s_for
    ·run_tac Wk.ceT
    ·run_tac Wk.ceT
    ·run_tac Wk.ceT
    ·run_tac Wk.ceT
    ·run_tac Wk.ceT
   ·apply ss_step
    ·run_tac Wk.ceT
    ·run_tac Wk.ceT
 ·rfl'
noncomputable def codesN:List Nat:=[9,10,11]++(aN 42).map (· +13)
noncomputable def vL (x:Int):Nat:=codesN.getD (aQ x 45).toNat 9
theorem uW:∀ (x:Int),vL x∈codesN:=by iterate 1
 have h:=cy x (show (0:Int)<45 by decide);have h2:=cV x (show (0:Int)<45 by decide);have h3:(aQ x 45).toNat<codesN.length:=by rw [show codesN.length=45 from rfl];omega
 unfold vL;rw [bl,au h3];exact b5 h3
theorem vD:∀ (x:Int),subD P1 (.lst (codesN.map fun c:Nat=>D.int c)) (.int (aQ x 45))=some (.int (vL x)):=by iterate 1
 have h:=cy x (show (0:Int)<45 by decide);have h2:=cV x (show (0:Int)<45 by decide);have h3:(aQ x 45).toNat<codesN.length:=by rw [show codesN.length=45 from rfl];omega
 obtain ⟨k,hk⟩:∃ k:Nat,aQ x 45=k:=⟨(aQ x 45).toNat,by omega⟩
 have hc:vL x=codesN.getD k 9:=by unfold vL;rw [hk];rfl
 rw [hc,hk];rw [hk] at h3;have h3:k<codesN.length:=h3;refine pX ?_;simp [h3]
theorem Nu:pd P1 "_law_letters" =some ⟨["heap"],fsc P1 "_law_letters",fb P1 "_law_letters"⟩:=by iterate 0 rfl'
theorem LM:∀ (x:Int),0<=aQ x 14/\aQ x 14<14:=by iterate 1 exact (⟨cy x (by decide),cV x (by decide)⟩)
theorem LJ:∀ (y:Int),(1+aQ y 14).natAbs<1099511627776:=by iterate 1 have:=LM y;omega
theorem FC:∀ {n:Nat} {l:List Int} {g:G} (h:∀ x∈l,x.natAbs<1099511627776),ceCall P1 (n+31) "sum" [.lst (l.map .int)] g=some (.int l.sum,g):=by iterate 4 exact (qM (h:=uf) (by rfl') (by omega) (Cd h))
theorem NA:∀ {n:Nat} {x:Int} {g:G},ceCall P1 (n+31) "sum" [.lst [.int (1+aQ x 14)]] g=some (.int ([1+aQ x 14]).sum,g):=by iterate 3 exact (FC (l:=[_]) (by simp only [ej];rintro _ rfl;exact LJ _))
theorem Nw:∀ {n:Nat} {x y:Int} {g:G},ceCall P1 (n+31) "sum" [.lst [.int (1+aQ x 14),.int (1+aQ y 14)]] g=some (.int ([1+aQ x 14,1+aQ y 14]).sum,g):=by iterate 4 exact (FC (l:=[_,_]) (by simp only [aq,aO,or_false];rintro _ (rfl | rfl)<;>exact LJ _))
theorem Ny:∀ {n:Nat} {x y z:Int} {g:G},ceCall P1 (n+31) "sum" [.lst [.int (1+aQ x 14),.int (1+aQ y 14),.int (1+aQ z 14)]] g=some (.int ([1+aQ x 14,1+aQ y 14,1+aQ z 14]).sum,g):=by iterate 5 exact (FC (l:=[_,_,_]) (by simp only [aq,aO,or_false];rintro _ (rfl | rfl | rfl)<;>exact LJ _))
theorem Cu:∀ {m:Nat} {h:Int} {g:G},∃ a b c d:Nat,ceCall P1 (m+60) "_law_letters" [.int h] g=some (.lst [.int a,.int b,.int c,.int d],g)/\a∈codesN/\b∈codesN/\c∈codesN/\d∈codesN:=by iterate 3
 suffices hw:∃ x y z u:Int,ceCall P1 (m+60) "_law_letters" [.int h] g=some (.lst [.int (vL x),.int (vL y),.int (vL z),.int (vL u)],g) by obtain ⟨x,y,z,u,hw⟩:=hw;exact ⟨_,_,_,_,hw,uW _,uW _,uW _,uW _⟩
 apply eK;apply eK;apply eK;apply eK;apply im (by rfl') Nu (by rfl');symm
 ·exact vD _
 symm
 ·exact NA (n:=m+19)
 symm
 ·exact vD _
 symm
 ·exact Nw (n:=m+19)
 symm
 ·exact vD _
 symm
 ·exact Ny (n:=m+19)
 symm
 ·exact vD _
 symm
noncomputable def XM:List (List Nat):=[[40],[41],[91],[93],[58],[44],[59],[43],[45],[42],[47],[124],[38],[60],[62],[61],[46],[37],[123],[125],[61,61],[33,61],[60,61],[62,61],[126],[94],[60,60],[62,62],[42,42],[43,61],[45,61],[42,61],[47,61],[37,61],[38,61],[124,61],[94,61],[60,60,61],[62,62,61],[42,42,61],[47,47],[47,47,61],[64],[64,61],[45,62],[46,46,46],[58,61],[33]]
noncomputable def Um:List (List Un):=[[],[(true,40)],[(true,41)],[(true,34)],[(false,34),(false,40),(false,35),(false,32),(false,34)],[(false,34),(false,41),(true,34),(false,10),(false,34)],[(true,92)],[(true,44)]]
noncomputable def yr (x:Int):Nat:=(aQ x 8).toNat
noncomputable def nU (n:Nat):List Un:=Um.getD n []
noncomputable def D6 (c:Nat):List Nat:=XM.getD (c-7) []
noncomputable def MN (c:Nat):List Un:=(D6 c).map fun o=>(false,o)
noncomputable def Bq (k n c:Nat):List Un:=if k % 2==0 then nU n++MN c else MN c++nU n
theorem BU:∀ (x:Int),yr x<8:=by iterate 1 have h:=cy x (show (0:Int)<8 by decide);have h2:=cV x (show (0:Int)<8 by decide);unfold yr;omega
theorem rM:∀ (x:Int),subD P1 (.lst (Um.map fun u=> .str (gl u))) (.int (aQ x 8))=some (.str (gl (nU (yr x)))):=by iterate 1
 have h:=cy x (show (0:Int)<8 by decide);have h2:=cV x (show (0:Int)<8 by decide);have h3:yr x<Um.length:=BU x;have e:aQ x 8=(yr x:Nat):=by unfold yr;omega
 rw [e];refine pX ?_;simp [h3,nU]
theorem sD:∀ {c:Nat} (h:c∈codesN),9<=c/\c<=54/\c≠12:=by iterate 2
 have key:∀ c∈codesN,9<=c/\c<=54/\c≠12:=by decide+kernel
 exact key c h
theorem uS:∀ {c:Nat} (h:c∈codesN),subD P1 (.lst (XM.map .str)) (.int ((c:Int)-7))=some (.str (D6 c)):=by iterate 2
 have h1:=sD h;have h3:c-7<XM.length:=by rw [show XM.length=48 from rfl];omega
 have e:(c:Int)-7=((c-7:Nat):Int):=by omega
 rw [e];refine pX ?_;simp [h3,D6]
theorem Bp:∀ (n:Nat),(gl (nU n)).length<=8:=by iterate 1
 by_cases h:n<8
 ·have key:∀ n<8,(gl (nU n)).length<=8:=by decide+kernel
  exact key n h
 ·have:nU n=[]:=by unfold nU;rw [bl,kM (by rw [show Um.length=8 from rfl];omega)];rfl
  rw [this];simp [gl]
theorem GZ:∀ (c:Nat),(D6 c).length<=8:=by iterate 1
 by_cases h:c-7<48
 ·have key:∀ n<48,(XM.getD n []).length<=8:=by decide+kernel
  exact key _ h
 ·have:D6 c=[]:=by unfold D6;rw [bl,kM (by rw [show XM.length=48 from rfl];omega)];rfl
  rw [this];simp
theorem DH:∀ o:List Nat,gl (o.map fun c=>(false,c))=o:=by iterate 0 intro o;induction o with | nil=>exact rfl | cons c o Qo=>rw [aB,qa,Qo];rfl
theorem Fp:∀ (c:Nat),gl (MN c)=D6 c:=by iterate 1 exact (DH _)
theorem zY:∀ (n c:Nat),binop .Add (.str (gl (nU n))) (.str (D6 c))=some (.str (gl (nU n++MN c))):=by iterate 2 rw [qQ,Fp];exact tN (by have:=Bp n;have:=GZ c;rw [aw];unfold lim;omega)
theorem BF:∀ (n c:Nat),binop .Add (.str (D6 c)) (.str (gl (nU n)))=some (.str (gl (MN c++nU n))):=by iterate 2 rw [qQ,Fp];exact tN (by have:=Bp n;have:=GZ c;rw [aw];unfold lim;omega)
theorem KM:pd P1 "_law_leaves" =some ⟨["codes","heap"],fsc P1 "_law_leaves",fb P1 "_law_leaves"⟩:=by iterate 0 rfl'
theorem Jc:∀ {m:Nat} {h:Int} {a b c:Nat} {g:G} (ha:a∈codesN) (hb:b∈codesN) (hc:c∈codesN),ceCall P1 (m+60) "_law_leaves" [.lst [.int a,.int b,.int c],.int h] g=some (.lst [.str (gl (Bq 0 (yr (aL h 1)) a)),.str (gl (Bq 1 (yr (aL h 8)) b)),.str (gl (Bq 2 (yr (aL h 64)) c))],g):=by iterate 9 have n0:=rM (aL h 1);have o0:=uS ha;have s0:=zY (yr (aL h 1)) a;have n1:=rM (aL h 8);have o1:=uS hb;have s1:=BF (yr (aL h 8)) b;have n2:=rM (aL h 64);have o2:=uS hc;have s2:=zY (yr (aL h 64)) c;apply im (by rfl') KM (by rfl');symm
theorem Jp:∀ {m:Nat} {h:Int} {a b c d:Nat} {g:G} (ha:a∈codesN) (hb:b∈codesN) (hc:c∈codesN) (hd:d∈codesN),ceCall P1 (m+60) "_law_leaves" [.lst [.int a,.int b,.int c,.int d],.int h] g=some (.lst [.str (gl (Bq 0 (yr (aL h 1)) a)),.str (gl (Bq 1 (yr (aL h 8)) b)),.str (gl (Bq 2 (yr (aL h 64)) c)),.str (gl (Bq 3 (yr (aL h 512)) d))],g):=by iterate 11 have n0:=rM (aL h 1);have o0:=uS ha;have s0:=zY (yr (aL h 1)) a;have n1:=rM (aL h 8);have o1:=uS hb;have s1:=BF (yr (aL h 8)) b;have n2:=rM (aL h 64);have o2:=uS hc;have s2:=zY (yr (aL h 64)) c;have n3:=rM (aL h 512);have o3:=uS hd;have s3:=BF (yr (aL h 512)) d;apply im (by rfl') KM (by rfl');symm
noncomputable def O9 (u:List Un) (o:List Nat) (c:Int):Bool:=u.all zL&&q9 false u&&tB (ga false u)==o&&SD.lookup o==some c&&decide (1<=o.length/\o.length<=3)&&decide (c≠7/\c≠8/\c≠12)&&decide (40∉o/\41∉o)&&decide ((gl u).length<=20/\u.length<=20)&&decide (o≠[92])&&decide (9∉gl u/\13∉gl u)
theorem Ld:([0,1]:List Nat).all (fun k=>(aN 8).all fun n=>codesN.all fun c=>O9 (Bq k n c) (D6 c) c)=true:=by iterate 0 decide+kernel
theorem IE:∀ {k n c:Nat} (hn:n<8) (hc:c∈codesN),O9 (Bq k n c) (D6 c) c=true:=by iterate 5
 have h:=Ld;have e:Bq k n c=Bq (k % 2) n c:=by unfold Bq;rw [Nat.mod_mod]
 rw [e];have h1:=aj.mp h (k % 2) (by have:=bR k (show 0<2 by decide);simp;omega);have h2:=aj.mp h1 n (cz.mpr hn);exact aj.mp h2 c hc
theorem KA:∀ {k n c:Nat} (hn:n<8) (hc:c∈codesN),Sw (Bq k n c) (D6 c) c/\9∉gl (Bq k n c)/\13∉gl (Bq k n c):=by iterate 5 have h:=IE (k:=k) hn hc;simp only [O9,ai,beq_iff_eq,decide_eq_true_eq] at h;obtain ⟨⟨⟨⟨⟨⟨⟨⟨⟨a,b⟩,s⟩,t⟩,l⟩,f⟩,n⟩,k⟩,z⟩,y⟩:=h;exact ⟨⟨a,b,s,t,l,f,n,k,z⟩,y⟩
noncomputable def lm (X w:List Nat):List Nat:=w.flatMap fun c=>if decide (c∈X) then [92,c] else [c]
theorem M7:pd P1 "_law_spelled" =some ⟨["word","mode"],fsc P1 "_law_spelled",fb P1 "_law_spelled"⟩:=by iterate 0 rfl'
theorem yW:∀ (X:List Nat),∀ w:List Nat,(lm X w).length<=2 * w.length:=by iterate 1
 intro w;induction w with
 | nil=>simp [lm]
 | cons c w Qo=>
  have h:=Qo;have e:lm X (c::w)=(if decide (c∈X) then [92,c] else [c])++lm X w:=rfl;rw [e,aw,aI];have:(if decide (c∈X) then [92,c] else [c]).length<=2:=by split<;>simp
  omega
theorem xT:∀ (X w:List Nat),(w.map fun c=>if decide (c∈X) then [92,c] else [c]).flatten=lm X w:=by iterate 2 exact (rfl)
noncomputable def Qk:Expr:=Ni (yo (at_ (fb P1 "_law_spelled") 1)) [0,1,1]
noncomputable def zE (mo:Nat) (w:List Nat):List Nat:=if mo=0 then [92,34] else if mo=1 then [92,32,10] else w
noncomputable def yn (mo:Nat):List Nat:=if mo=0 then [34] else []
theorem JV:∀ {m mo:Nat} {w:List Nat} {T:Qr} {g:G} (hm:mo<3) (h1:T.At "word" (.str w)) (h2:T.At "mode" (.int mo)),iterLoop (tq (m+50) (fsc P1 "_law_spelled") ⟨T,[],none⟩ Qk) (w.map fun c=> .str [c]) [] g=some ((w.map fun c=>if decide (c∈zE mo w) then [92,c] else [c]).map D.str,g,none):=by iterate 8
 rw [b7];refine qF (F:=fun c=>D.str (if decide (c∈zE mo w) then [92,c] else [c])) fun c hc acc=>?_;unfold tq;have Th:mo=0\/mo=1\/mo=2:=by omega
 have c1:cmp P1 .In (.str [c]) (.str (zE mo w))=some (decide (c∈zE mo w)):=rfl;have hs:subD P1 (.lst [.str [92,34],.str [92,32,10],.str w]) (.int mo)=some (.str (zE mo w)):=by rcases Th with rfl | rfl | rfl<;>rfl
 generalize hX:zE mo w=X at *;cases e:decide (c∈X) with | true=>rw [e] at c1;rw [if_pos rfl];symm | false=>rw [e] at c1;rw [if_neg (by decide)];symm
theorem rG:∀ {a b:List Nat} (h:(a++b).length<=lim),binop .Add (.str a) (.str b)=some (.str (a++b)):=by iterate 3 exact (tN h)
theorem Cr:∀ {m mo:Nat} {w:List Nat} {g:G} (hm:mo<3) (hl:w.length<900),ceCall P1 (m+60) "_law_spelled" [.str w,.int mo] g=some (.str (yn mo++lm (zE mo w) w++yn mo),g):=by iterate 6
 have Th:mo=0\/mo=1\/mo=2:=by omega
 have hs:subD P1 (.lst [.str [34],.str [],.str []]) (.int mo)=some (.str (yn mo)):=by rcases Th with rfl | rfl | rfl<;>rfl
 have hM:(yn mo).length<=1:=by rcases Th with rfl | rfl | rfl<;>simp [yn]
 have h2:=yW (zE mo w) w;have e1:=JV (m:=m+1) (w:=w) (T:=[("mark",.str (yn mo)),("word",.str w),("mode",.int mo)]) (g:=g) hm rfl rfl;have hj:=zT (rs:=w.map fun c=>if decide (c∈zE mo w) then [92,c] else [c]) (g:=g) (by rw [xT];unfold lim;omega);rw [xT] at hj;have hll:((w.map fun c=>if decide (c∈zE mo w) then [92,c] else [c]).map D.str).length<=lim:=by simp [lim];omega
 have a1:=rG (a:=yn mo) (b:=lm (zE mo w) w) (by rw [aw];unfold lim;omega);have a2:=rG (a:=yn mo++lm (zE mo w) w) (b:=yn mo) (by rw [aw,aw];unfold lim;omega);generalize lm (zE mo w) w=S at *;generalize yn mo=M at *;apply im (by rfl') M7 (by rfl');symm
noncomputable def nl (w:List Nat):Int:=((w.filter (· ==10)).length:Nat)
theorem qT:∀ (c:Nat) (w:List Nat),nl (c::w)=nl w+(if c=10 then 1 else 0):=by iterate 2 unfold nl;rw [jb];by_cases h:c=10<;>simp [h]
theorem vS:∀ (a b:List Nat),nl (a++b)=nl a+nl b:=by iterate 2 unfold nl;rw [iF,aw];omega
theorem GN:∀ (c:Nat) (r acc:List Nat) (ln:Int),tA (92::c::r) acc ln=tA r (acc++[c]) (if c=10 then ln+1 else ln):=by iterate 4 dsimp only [tA];simp
theorem Cn:∀ {c:Nat} (h1:c≠34) (h2:c≠92) (r acc:List Nat) (ln:Int),tA (c::r) acc ln=tA r (acc++[c]) (if c=10 then ln+1 else ln):=by iterate 6 rw [vF,if_neg h1,if_neg h2];rfl
theorem Ch:∀ {X:List Nat} (h1:34∈X) (h2:92∈X) (r:List Nat),∀ (w acc:List Nat) (ln:Int),tA (lm X w++34::r) acc ln=(acc++w,r,ln+nl w):=by iterate 4
 intro w;induction w with
 | nil=>intro acc ln;rw [show lm X []=[] from rfl,a9,vF,if_pos rfl,aS,show nl []=0 from rfl,lb];rfl
 | cons c w Qo=>
  intro acc ln;have e:lm X (c::w)=(if decide (c∈X) then [92,c] else [c])++lm X w:=rfl;rw [e,qT];have key:tA ((if decide (c∈X) then [92,c] else [c])++lm X w++34::r) acc ln=tA (lm X w++34::r) (acc++[c]) (if c=10 then ln+1 else ln):=by
   by_cases hc:c∈X
   ·simp only [hc,decide_true,if_true,bc,a9];exact GN ..
   ·simp only [hc,decide_false,bX,if_false,bc,a9];exact Cn (fun h=>hc (by rw [h];exact h1)) (fun h=>hc (by rw [h];exact h2)) ..
  rw [key,Qo];simp;split<;>omega
theorem FK:∀ (c:Nat) (r acc:List Nat) (ln:Int),sF (92::c::r) acc ln=sF r (acc++[c]) (if c=10 then ln+1 else ln):=by iterate 4 dsimp only [sF];simp [qE]
theorem Ca:∀ {c:Nat} (h1:qE c=false) (h2:c≠92) (r acc:List Nat) (ln:Int),sF (c::r) acc ln=sF r (acc++[c]) (if c=10 then ln+1 else ln):=by iterate 6 rw [vM,if_neg (by rw [h1];exact aJ),if_neg h2];rfl
theorem xY:∀ {X:List Nat} {q:Nat} (he:qE q=true) (r:List Nat),∀ (w acc:List Nat) (ln:Int),(∀ c∈w,c∈X\/(qE c=false/\c≠92))->sF (lm X w++q::r) acc ln=(acc++w,r,ln+nl w+(if q=10 then 1 else 0)):=by iterate 4
 intro w;induction w with
 | nil=>intro acc ln _;rw [show lm X []=[] from rfl,a9,vM,if_pos he];simp [nl,o8];split<;>omega
 | cons c w Qo=>
  intro acc ln h;have e:lm X (c::w)=(if decide (c∈X) then [92,c] else [c])++lm X w:=rfl;rw [e,qT];have key:sF ((if decide (c∈X) then [92,c] else [c])++lm X w++q::r) acc ln=sF (lm X w++q::r) (acc++[c]) (if c=10 then ln+1 else ln):=by
   by_cases hc:c∈X
   ·simp only [hc,decide_true,if_true,bc,a9];exact FK ..
   ·simp only [hc,decide_false,bX,if_false,bc,a9];rcases h c (by simp) with h1 | h1
    ·exact absurd h1 hc
    ·exact Ca h1.1 h1.2 ..
  rw [key,Qo _ _ fun d hd=>h d (by simp [hd])];simp;split<;>omega
theorem zC:∀ {c:Nat} (h:qE c=true) (r:List Nat) (ln:Int),tok (c::r) ln=tok r (if c=10 then ln+1 else ln):=by iterate 4 dsimp only [tok];simp [h]
theorem M8:∀ (r:List Nat) (ln:Int),tok (34::r) ln=tA r [] ln:=by iterate 2 dsimp only [tok];simp [qE]
theorem Iw:∀ (c:Nat) (r:List Nat) (ln:Int),tok (92::c::r) ln=sF r [c] (if c=10 then ln+1 else ln):=by iterate 3 dsimp only [tok];simp [qE]
theorem Mg:∀ (r:List Nat) (ln:Int),tok (40::r) ln=sF r [40] ln:=by iterate 2 dsimp only [tok];simp [qE]
noncomputable def qV (mo i:Nat):List Nat:=if mo=0 then [] else [([10,9,13,32]:List Nat).getD i 10]
noncomputable def pe (mo i:Nat) (w:List Nat):List Nat:=[13,9,32,10]++(yn mo++lm (zE mo w) w++yn mo)++qV mo i++[101,110,100]
theorem Ht:∀ (X:List Nat),∀ w:List Nat,nl (lm X w)=nl w:=by iterate 1
 intro w;induction w with
 | nil=>exact rfl
 | cons c w Qo=>
  have e:lm X (c::w)=(if decide (c∈X) then [92,c] else [c])++lm X w:=rfl;rw [e,vS,Qo,qT];have:nl (if decide (c∈X) then [92,c] else [c])=if c=10 then 1 else 0:=by
   by_cases h:c∈X
   ·simp only [h,decide_true,if_true];rw [qT,qT];simp [nl]
   ·simp only [h,decide_false,bX,if_false];rw [qT];simp [nl]
  omega
theorem xq:∀ (r:List Nat),tok (13::9::32::10::r) 1=tok r 2:=by iterate 1 rw [zC (by decide),zC (by decide),zC (by decide),zC (by decide)];rfl
theorem AQ:∀ {mo i:Nat} {w w':List Nat} (hm:mo<3) (hw:w=40::w') (h9:9∉w) (h13:13∉w),tok (pe mo i w) 1=(w,[101,110,100],1+nl (pe mo i w)):=by iterate 8
 have Yu:nl (pe mo i w)=1+nl w+nl (qV mo i):=by
  unfold pe;rw [vS,vS,vS,vS,vS,Ht];have h1:nl [13,9,32,10]=1:=by decide
  have h2:nl [101,110,100]=0:=by decide
  have h3:nl (yn mo)=0:=by unfold yn;split<;>decide
  omega
 rw [Yu];have Th:mo=0\/mo=1\/mo=2:=by omega
 rcases Th with rfl | rfl | rfl
 ·have e:pe 0 i w=13::9::32::10::34::(lm [92,34] w++34::[101,110,100]):=by simp [pe,yn,zE,qV]
  rw [e,xq,M8,Ch (by simp) (by simp)];simp [qV,nl];omega
 all_goals
  generalize hq:([10,9,13,32]:List Nat).getD i 10=q;have hqw:qE q=true:=by rcases i with _ | _ | _ | _ | i<;>simp at hq<;>subst hq<;>rfl
 ·have e:pe 1 i w=13::9::32::10::(lm [92,32,10] w++q::[101,110,100]):=by simp [pe,yn,zE,qV,<-hq]
  have e2:lm [92,32,10] w=40::lm [92,32,10] w':=by rw [hw];rfl
  rw [e,xq,e2,bc,Mg,xY hqw]
  ·have hg:qV 1 i=[q]:=by simp [qV];simpa using hq
   rw [hg,hw,qT,qT];simp [nl];split<;>omega
  ·intro c hc;by_cases h:c∈([92,32,10]:List Nat)
   ·exact .inl h
   ·refine .inr ?_;simp only [aq,aO,or_false,not_or] at h;have h9:c≠9:=fun e=>h9 (by rw [hw,<-e];simp [hc]);have h13:c≠13:=fun e=>h13 (by rw [hw,<-e];simp [hc]);simp [qE,h,h9,h13]
 ·have e:pe 2 i w=13::9::32::10::(lm w w++q::[101,110,100]):=by simp [pe,yn,zE,qV,<-hq]
  have e2:lm w w=92::40::lm w w':=by have:lm w (40::w')=(if decide (40∈w) then [92,40] else [40])++lm w w':=rfl;rw [<-hw] at this;rw [this,if_pos (by rw [hw];simp)];rfl
  rw [e,xq,e2,bc,bc,Iw,if_neg (by decide),xY hqw]
  ·have hg:qV 2 i=[q]:=by simp [qV];simpa using hq
   rw [hg,hw,qT,qT];simp [nl];split<;>omega
  ·intro c hc;exact .inl (by rw [hw];simp [hc])
set_option genCtorIdx true in
inductive It where
| lf (i:Nat)
| nt (n:Nat)
 deriving DecidableEq
theorem _root_.Cz.m7:Nonempty It:=by iterate 0 exact (⟨.lf 0⟩)
noncomputable def It.v (cd:Nat->Int):It->Int
| .lf i=>cd i
| .nt n=>256+n
noncomputable def It.TY:It->Bool
| .lf _=>false
| .nt _=>true
noncomputable abbrev CI:=Int×List It
noncomputable def o9 (cd:Nat->Int) (r:List It):List D:=r.map fun x=> .int (x.v cd)
noncomputable def qD (cd:Nat->Int) (q:CI):D:= .tup [.int q.1,.lst (o9 cd q.2)]
noncomputable def gD (r:List Nat) (ln:Int) (pb:List D) (rows:List (List D)):G:=[.sg r,.lex ln (some 0) pb,.Qz rows]
theorem Oj:pd P1 "_law_derived" =some ⟨["lexer","table","turns"],fsc P1 "_law_derived",fb P1 "_law_derived"⟩:=by iterate 0 rfl'
noncomputable def O6:Expr:=D3 (at_ (fb P1 "_law_derived") 2)
noncomputable def OG:List Stmt:=p7 (at_ (fb P1 "_law_derived") 2)
noncomputable def PW:Expr:=yo (at_ OG 1)
noncomputable def ye (r:List It) (k:Nat):Bool:=match r[k]? with
| some x=>x.TY
| none=>false
theorem Dw:∀ {m:Nat} {cd:Nat->Int} {r:List It} {T:Qr} {ws:List D} {g:G} (ahg:∀ i,cd i<256) (h1:T.At "row" (.lst (o9 cd r))),iterLoop (tq (m+50) (fsc P1 "_law_derived") ⟨T,[],some ("words",.lst ws)⟩ PW) ((aN r.length).map fun k:Nat=>D.int k) [] g=some (((aN r.length).filter (ye r)).map fun k:Nat=>D.int k,g,none):=by iterate 8
 refine tW (b:=ye r) (F:=fun k:Nat=>D.int k) ?_;intro k hk acc;have hk:=cz.mp hk;unfold tq;have hs:subD P1 (.lst (o9 cd r)) (.int (k:Int))=some (.int (r[k].v cd)):=pX (by simp [o9,hk]);have hc:=NG (m:=m+27) (x:=r[k].v cd) (g:=g);simp only [aK,aM] at hc;have hb:ye r k=decide (256<=r[k].v cd):=by unfold ye;rw [au hk];cases r[k] with | lf i=>have:=ahg i;show false=decide (256<=cd i);rw [decide_eq_false (by omega)] | nt n=>show true=decide (256<=256+(n:Int));rw [decide_eq_true (by omega)]
 rw [hb];generalize decide (256<=r[k].v cd)=b at hc;cases b with | true=>rw [if_pos rfl];symm | false=>rw [if_neg (by decide)];symm
theorem EW:∀ {r:List It} (h:∀ x∈r,x.TY=false),(aN r.length).filter (ye r)=[]:=by iterate 2 rw [gQ];intro k hk;have hk:=cz.mp hk;unfold ye;rw [au hk];simp [h _ (b5 hk)]
theorem DY:∀ {pre post:List It} {n:Nat} (h:∀ x∈pre,x.TY=false),∃ tl,(aN (pre++ .nt n::post).length).filter (ye (pre++ .nt n::post))=pre.length::tl:=by iterate 4
 have e:aN (pre++ .nt n::post).length=aN pre.length++(pre.length::(aN post.length).map fun k=>pre.length+1+k):=by rw [aw,aI,List.range_add,gO];simp only [aB,b7];congr 2;refine cN fun k _=>?_;simp only [dC];omega
 rw [e,iF,jb];have h1:(aN pre.length).filter (ye (pre++ .nt n::post))=[]:=by rw [gQ];intro k hk;have hk:=cz.mp hk;unfold ye;rw [bg hk,au hk];simp [h _ (b5 hk)]
 have h2:ye (pre++ .nt n::post) pre.length=true:=by unfold ye;rw [aT (by omega),iW];rfl
 rw [h1,h2,if_pos rfl];exact ⟨_,rfl⟩
theorem Dq:∀ {a b:List D} (h:(a++b).length<=lim),binop .Add (.lst a) (.lst b)=some (.lst (a++b)):=by iterate 3
 have:binop .Add (.lst a) (.lst b)=EX (a++b):=by rfl'
 rw [this,EX,if_pos h]
structure X5 (T:Qr):Prop where
 l:T.At "lexer" (.loc 1)
 t:T.At "table" (.loc 2)
 w:T.lookup ("words" :Str)=none
theorem Kp:∀ {t:List Nat} {ln:Int} {d:D} {pb:List D} {rows:List (List D)},methD "get_token" (.loc 1) [] (gD t ln (d::pb) rows)=some (d,gD t ln pb rows):=by iterate 5 exact (Hv (g:=gD t ln (d::pb) rows) (j:=1) rfl)
theorem B1:∀ {t:List Nat} {ln:Int} {d:D} {pb:List D} {rows:List (List D)} (h:pb.length<lim),methD "push_token" (.loc 1) [d] (gD t ln pb rows)=some (.none,gD t ln (pb++[d]) rows):=by iterate 6 exact (B6 (g:=gD t ln pb rows) (j:=1) rfl h)
theorem E0:∀ {p:bY} {sc:aX} {st:St} {y:Str} {yp pos:Pos} {i:Expr} {l:Nat} (hk:mt y=true) (h:nameD p sc st y=some (.loc l)),qk p sc st (.Subscript (.Name y yp) i pos)=some (l,i):=by iterate 10 refine f8 (show yU _=some (_,i) from rfl) (f8 (show qI _=some y from rfl) ?_);rw [if_pos hk];exact f8 h (f8 (show xD _=some l from rfl) rfl)
theorem IQ:∀ {m:Nat} {cd:Nat->Int} {s:Int} {r:List It} {T:Qr} {ws pb:List D} {t:List Nat} {ln k:Int} {rows:List (List D)} (ahg:∀ i,cd i<256) (hT:X5 T) (hr:∀ x∈r,x.TY=false) (hw:ws.length<900) (Vf:r.length<900),∃ T',turnF P1 (m+60) (fsc P1 "_law_derived") O6 OG (.int k) ⟨T,[],some ("words",.lst ws)⟩ (gD t ln (qD cd (s,r)::pb) rows)=some (⟨T',[],some ("words",.lst (ws++[qD cd (s,r)]))⟩,gD t ln pb rows,none)/\X5 T':=by iterate 16
 have h1:=hT.l;have h2:=hT.t;have h3:=hT.w;have hg:=Kp (t:=t) (ln:=ln) (d:=qD cd (s,r)) (pb:=pb) (rows:=rows);have hl:(o9 cd r).length=r.length:=by simp [o9]
 have hit:=qe (k:=(o9 cd r).length) (by rw [hl];unfold lim;omega);have e1:=fun T' h=>Dw (m:=m+6) ahg (r:=r) (T:=T') (ws:=ws) (g:=gD t ln pb rows) h;rw [EW hr,<-hl] at e1;have e2:=e1 (("row",.lst (o9 cd r))::("sign",.int s)::("turn",.int k)::T) rfl;have ha:∀ d,ownMeth "append" ws [d]=some (ws++[d]):=fun d=>rE (by unfold lim;omega);clear e1;refine ⟨("places",.lst [])::("row",.lst (o9 cd r))::("sign",.int s)::("turn",.int k)::T,?_,⟨h1,h2,h3⟩⟩;symm
 ·exact ha _
 symm
theorem Jd:∀ {m n:Nat} {cd:Nat->Int} {s:Int} {pre post:List It} {a b:It} {T:Qr} {ws pb:List D} {t:List Nat} {ln k:Int} {rows:List (List D)} (ahg:∀ i,cd i<256) (hT:X5 T) (hr:∀ x∈pre,x.TY=false) (Vf:(pre++ .nt n::post).length<900) (hpb:pb.length<900) (VS:rows[n]? =some [.int (a.v cd),.int (b.v cd)]),∃ T',turnF P1 (m+60) (fsc P1 "_law_derived") O6 OG (.int k) ⟨T,[],some ("words",.lst ws)⟩ (gD t ln (qD cd (s,pre++ .nt n::post)::pb) rows)=some (⟨T',[],some ("words",.lst ws)⟩,gD t ln (pb++[qD cd (s,pre++a::b::post)]++[qD cd (-s,pre++b::a::post)]) rows,none)/\X5 T':=by iterate 21
 have h1:=hT.l;have h2:=hT.t;have h3:=hT.w;have hg:=Kp (t:=t) (ln:=ln) (d:=qD cd (s,pre++ .nt n::post)) (pb:=pb) (rows:=rows);have hl:(o9 cd (pre++ .nt n::post)).length=(pre++ .nt n::post).length:=by simp [o9]
 have hit:=qe (k:=(o9 cd (pre++ .nt n::post)).length) (by rw [hl];unfold lim;omega);have e1:=fun T' h=>Dw (m:=m+6) ahg (r:=pre++ .nt n::post) (T:=T') (ws:=ws) (g:=gD t ln pb rows) h;obtain ⟨tl,VQ⟩:=DY (post:=post) (n:=n) hr;have aeB:((pre.length::tl).map fun k:Nat=>D.int k).length<=lim:=by rw [aG,<-VQ];refine bw (dH _ _) ?_;rw [lV];unfold lim;omega
 rw [VQ,<-hl] at e1;have e2:=e1 (("row",.lst (o9 cd (pre++ .nt n::post)))::("sign",.int s)::("turn",.int k)::T) rfl;have hs:subD P1 (.lst (o9 cd (pre++ .nt n::post))) (.int (pre.length:Int))=some (.int (256+(n:Int))):=pX (by simp [o9,show ∀ k,It.v cd (.nt k)=256+k from fun _=>rfl]);have hix:qx (.int (256+(n:Int)-256))=some n:=by rw [show (256+(n:Int)-256)=(n:Int) from by omega];simp [qx,oN]
 have s1:slice (o9 cd (pre++ .nt n::post)) none (some (pre.length:Int))=o9 cd pre:=by rw [vg];simp [o9]
 have s2:slice (o9 cd (pre++ .nt n::post)) (some ((pre.length:Int)+1)) none=o9 cd post:=by rw [show (pre.length:Int)+1=((pre.length+1:Nat):Int) from rfl,xw (by simp [o9])];rw [show o9 cd (pre++ .nt n::post)=(o9 cd pre++[.int (256+(n:Int))])++o9 cd post from by simp [o9,show ∀ k,It.v cd (.nt k)=256+k from fun _=>rfl]];rw [eT (by simp [o9]),gR (by simp [o9]),a9]
 have q1:qD cd (s,pre++a::b::post)= .tup [.int s,.lst (slice (o9 cd (pre++ .nt n::post)) none (some (pre.length:Int))++[.int (a.v cd),.int (b.v cd)]++slice (o9 cd (pre++ .nt n::post)) (some ((pre.length:Int)+1)) none)]:=by rw [s1,s2];simp [qD,o9]
 have q2:qD cd (-s,pre++b::a::post)= .tup [.int (-s),.lst (slice (o9 cd (pre++ .nt n::post)) none (some (pre.length:Int))++[.int (b.v cd),.int (a.v cd)]++slice (o9 cd (pre++ .nt n::post)) (some ((pre.length:Int)+1)) none)]:=by rw [s1,s2];simp [qD,o9]
 have a1:∀ x y:D,binop .Add (.lst (slice (o9 cd (pre++ .nt n::post)) none (some (pre.length:Int)))) (.lst [x,y])=some (.lst (slice (o9 cd (pre++ .nt n::post)) none (some (pre.length:Int))++[x,y])):=fun x y=>Dq (by rw [s1];simp at Vf;simp [o9,lim];omega);have a2:∀ x y:D,binop .Add (.lst (slice (o9 cd (pre++ .nt n::post)) none (some (pre.length:Int))++[x,y])) (.lst (slice (o9 cd (pre++ .nt n::post)) (some ((pre.length:Int)+1)) none))=some (.lst (slice (o9 cd (pre++ .nt n::post)) none (some (pre.length:Int))++[x,y]++slice (o9 cd (pre++ .nt n::post)) (some ((pre.length:Int)+1)) none)):=fun x y=>Dq (by rw [s1,s2];simp at Vf;simp [o9,lim];omega);have p1:∀ d,methD "push_token" (.loc 1) [d] (gD t ln pb rows)=some (.none,gD t ln (pb++[d]) rows):=fun d=>B1 (by unfold lim;omega);have p2:∀ d d2,methD "push_token" (.loc 1) [d2] (gD t ln (pb++[d]) rows)=some (.none,gD t ln (pb++[d]++[d2]) rows):=fun d d2=>B1 (by simp [lim];omega);have a11:=a1 (.int (a.v cd)) (.int (b.v cd));have a12:=a1 (.int (b.v cd)) (.int (a.v cd));have a21:=a2 (.int (a.v cd)) (.int (b.v cd));have a22:=a2 (.int (b.v cd)) (.int (a.v cd));rw [q1,q2];clear e1 s1 s2 q1 q2 hl VQ a1 a2;refine ⟨("right",.int (b.v cd))::("left",.int (a.v cd))::("k",.int (pre.length:Int))::("places",.lst ((pre.length::tl).map fun k:Nat=>D.int k))::("row",.lst (o9 cd (pre++ .nt n::post)))::("sign",.int s)::("turn",.int k)::T,?_,⟨h1,h2,h3⟩⟩;symm
 ·refine E0 (l:=2) (by rfl') ?_;symm
 symm
 ·exact p1 _
 symm
 ·exact p2 _ _
 symm;rfl'
noncomputable def A9:List It->Option (List It×Nat×List It)
| []=>none
| .lf i::r=>(A9 r).map fun p=>(.lf i::p.1,p.2)
| .nt n::r=>some ([],n,r)
noncomputable def KH (tb:List (It×It)) (Q W:List CI):Option (List CI×List CI):=match Q with
| []=>none
| q::Q=>if q.2.length<100/\W.length<100/\Q.length<100 then (match A9 q.2 with
  | none=>some (Q,W++[q])
  | some (pre,n,post)=>(tb[n]?).map fun p=>(Q++[(q.1,pre++p.1::p.2::post)]++[(-q.1,pre++p.2::p.1::post)],W)) else none
noncomputable def Fy (tb:List (It×It)):Nat->List CI->List CI->Option (List CI×List CI)
| 0,Q,W=>some (Q,W)
| k+1,Q,W=>(KH tb Q W).bind fun x=>Fy tb k x.1 x.2
theorem Fa:∀ {r:List It},A9 r=none->∀ x∈r,x.TY=false:=by iterate 0
 intro r;induction r with
 | nil=>exact fun _ x hx=>nomatch hx
 | cons i r Qo=>
  intro h x hx;cases i with
  | lf i=>
   replace h:=Option.map_eq_none_iff.mp h;rcases aq.mp hx with rfl | hx
   ·rfl
   ·exact Qo h x hx
  | nt n=>cases h
theorem Fe:∀ {r pre post:List It} {n:Nat},A9 r=some (pre,n,post)->r=pre++ .nt n::post/\∀ x∈pre,x.TY=false:=by iterate 0
 intro r;induction r with
 | nil=>intro _ _ _ h;cases h
 | cons i r Qo=>
  intro pre post n h;cases i with
  | lf i=>
   obtain ⟨⟨p,q,s⟩,h1,h2⟩:=ba.mp h;simp only [cR] at h2;obtain ⟨rfl,rfl,rfl⟩:=h2;obtain ⟨e,f⟩:=Qo h1;refine ⟨by rw [e];rfl,fun x hx=>?_⟩;rcases aq.mp hx with rfl | hx
   ·rfl
   ·exact f x hx
  | nt m=>cases h;exact ⟨rfl,fun x hx=>by cases hx⟩
noncomputable def sx (cd:Nat->Int) (tb:List (It×It)):List (List D):=tb.map fun p=>[.int (p.1.v cd),.int (p.2.v cd)]
theorem JH:∀ {m:Nat} {cd:Nat->Int} {tb:List (It×It)} {t:List Nat} {ln:Int} (ahg:∀ i,cd i<256),∀ (ks:List Int) (T:Qr) (Q W Q' W':List CI),X5 T->Fy tb ks.length Q W=some (Q',W')->
  ∃ T',iterLoop (turnF P1 (m+60) (fsc P1 "_law_derived") O6 OG) (ks.map D.int) ⟨T,[],some ("words",.lst (W.map (qD cd)))⟩ (gD t ln (Q.map (qD cd)) (sx cd tb))=some (⟨T',[],some ("words",.lst (W'.map (qD cd)))⟩,gD t ln (Q'.map (qD cd)) (sx cd tb),none)/\X5 T':=by iterate 6
 intro ks;induction ks with
 | nil=>intro T Q W Q' W' hT h;cases h;exact ⟨T,rfl,hT⟩
 | cons k ks Qo=>
  intro T Q W Q' W' hT h;replace h:(KH tb Q W).bind _=some (Q',W'):=h;obtain ⟨⟨Q1,W1⟩,h1,h2⟩:=gj.mp h;cases Q with
  | nil=>cases h1
  | cons q Q=>
   by_cases hlen:q.2.length<100/\W.length<100/\Q.length<100;case neg=>replace h1:(if q.2.length<100/\W.length<100/\Q.length<100 then _ else none)=some (Q1,W1):=h1;rw [if_neg hlen] at h1;cases h1
   case pos=>
    replace h1:(if q.2.length<100/\W.length<100/\Q.length<100 then _ else none)=some (Q1,W1):=h1;rw [if_pos hlen] at h1;obtain ⟨l1,l2,l3⟩:=hlen;cases ec:A9 q.2 with
    | none=>rw [ec] at h1;simp only [fi,cR] at h1;obtain ⟨rfl,rfl⟩:=h1;obtain ⟨T1,e1,Vw⟩:=IQ (m:=m) (s:=q.1) (r:=q.2) (ws:=W.map (qD cd)) (pb:=Q.map (qD cd)) (t:=t) (ln:=ln) (k:=k) (rows:=sx cd tb) ahg hT (Fa ec) (by simp;omega) (by omega);obtain ⟨T',e2,V4⟩:=Qo T1 Q (W++[q]) Q' W' Vw h2;refine ⟨T',?_,V4⟩;rw [aB,aB,ol e1];rw [dG] at e2;exact e2
    | some x=>
     obtain ⟨pre,n,post⟩:=x;rw [ec] at h1;dsimp only at h1;obtain ⟨⟨a,b⟩,h3,h4⟩:=ba.mp h1;simp only [cR] at h4;obtain ⟨rfl,rfl⟩:=h4;obtain ⟨e,WZ⟩:=Fe ec;have VS:(sx cd tb)[n]? =some [.int (a.v cd),.int (b.v cd)]:=by unfold sx;rw [b8,h3];rfl
     obtain ⟨T1,e1,Vw⟩:=Jd (m:=m) (n:=n) (s:=q.1) (ws:=W.map (qD cd)) (pb:=Q.map (qD cd)) (t:=t) (ln:=ln) (k:=k) (rows:=sx cd tb) (post:=post) ahg hT WZ (by rw [<-e];omega) (by simp;omega) VS;obtain ⟨T',e2,V4⟩:=Qo T1 _ W Q' W' Vw h2;refine ⟨T',?_,V4⟩;rw [<-e] at e1;rw [aB,aB,show qD cd q=qD cd (q.1,q.2) from rfl,ol e1];rw [dG,dG] at e2;exact e2
theorem Dv:∀ {m n:Nat} {cd:Nat->Int} {tb:List (It×It)} {t:List Nat} {ln:Int} {W:List CI} (ahg:∀ i,cd i<256) (hn:n<100) (h:Fy tb n [(1,[.nt 0])] []=some ([],W)),ceCall P1 (m+80) "_law_derived" [.loc 1,.loc 2,.int n] (gD t ln [] (sx cd tb))=some (.lst (W.map (qD cd)),gD t ln [] (sx cd tb)):=by iterate 10
 have hlen:((aN n).map fun k:Nat=>(k:Int)).length=n:=by simp
 obtain ⟨T',e1,hT⟩:=JH (m:=m+14) ahg (t:=t) (ln:=ln) ((aN n).map fun k:Nat=>(k:Int)) [("lexer",.loc 1),("table",.loc 2),("turns",.int n)] [(1,[.nt 0])] [] [] W ⟨rfl,rfl,rfl⟩ (by rw [hlen];exact h);rw [b7] at e1;have hit:=qe (k:=n) (by unfold lim;omega);have hp:methD "push_token" (.loc 1) [.tup [.int 1,.lst [.int 256]]] (gD t ln [] (sx cd tb))=some (.none,gD t ln [qD cd (1,[.nt 0])] (sx cd tb)):=B1 (pb:=[]) (by decide);apply im (by rfl') Oj (by rfl');symm
theorem uy:∀ {f:D->D->Option Bool} {a b:D} {as bs:List D} (h:f a b=some true) (k:wT f as bs=some true),wT f (a::as) (b::bs)=some true:=by iterate 7 exact (f8 (show vO _=some (b,bs) from rfl) (f8 h (f8 k rfl)))
theorem C4:∀ (k:Nat) (x:Int),ru (k+1) (.int x) (.int x)=some true:=by iterate 2 show (oN (.int x)).bind (fun b=>some (x==b))=_;exact f8 (a:=x) rfl (by rw [beq_self_eq_true])
theorem Ay:∀ {k:Nat} {l:List D} (h:wT (ru k) l l=some true),ru (k+1) (.lst l) (.lst l)=some true:=by iterate 3 show (tw (.lst l)).bind (fun b=>if l.length=b.length then wT (ru k) l b else some false)=_;exact f8 (a:=l) rfl ((if_pos rfl).trans h)
theorem Gc:∀ (k:Nat) (l:List Int),wT (ru (k+1)) (l.map D.int) (l.map D.int)=some true:=by iterate 2 induction l with | nil=>rfl | cons x l h=>exact uy (C4 k x) h
theorem CM:∀ (k:Nat) (l:List Int),ru (k+2) (.lst (l.map D.int)) (.lst (l.map D.int))=some true:=by iterate 2 exact (Ay (Gc k l))
theorem HP:∀ (cd:Nat->Int) (r:List It),o9 cd r=(r.map fun x=>x.v cd).map D.int:=by iterate 2 simp [o9]
theorem IV:∀ (k:Nat) (cd:Nat->Int) (q:CI),ru (k+3) (qD cd q) (qD cd q)=some true:=by iterate 3
 rw [qD,HP];have e:∀ x y:D,ru (k+2) x x=some true->ru (k+2) y y=some true->ru (k+3) (.tup [x,y]) (.tup [x,y])=some true:=fun x y h1 h2=>by show (CZ (.tup [x,y])).bind (fun b=>if [x,y].length=b.length then wT (ru (k+2)) [x,y] b else none)=_;exact f8 (a:=[x,y]) rfl ((if_pos rfl).trans (uy h1 (uy h2 rfl)))
 exact e _ _ (C4 (k+1) _) (CM k _)
theorem HF:∀ (k:Nat) (cd:Nat->Int) (W:List CI),wT (ru (k+3)) (W.map (qD cd)) (W.map (qD cd))=some true:=by iterate 3 induction W with | nil=>rfl | cons q W h=>exact uy (IV k cd q) h
theorem Ki:∀ {a b:D} (h:ru 6 a b=some true),(ru 6 a b).map (!·)=some false:=by iterate 3 rw [h];rfl
theorem Dl:∀ (l:List Int),cmp P1 .NotEq (.lst (l.map D.int)) (.lst (l.map D.int))=some false:=by iterate 1
 have:cmp P1 .NotEq (.lst (l.map D.int)) (.lst (l.map D.int))=(ru 6 (.lst (l.map D.int)) (.lst (l.map D.int))).map (!·):=by rfl'
 rw [this];exact Ki (CM 4 l)
theorem I9:∀ (cd:Nat->Int) (W:List CI),cmp P1 .NotEq (.lst (W.map (qD cd))) (.lst (W.map (qD cd)))=some false:=by iterate 2
 have:cmp P1 .NotEq (.lst (W.map (qD cd))) (.lst (W.map (qD cd)))=(ru 6 (.lst (W.map (qD cd))) (.lst (W.map (qD cd)))).map (!·):=by rfl'
 rw [this];exact Ki (Ay (HF 2 cd W))
theorem Kc:∀ {L:Nat} {kv:KV} (hk:KL L kv) (hn:(kv.map (·.1)).Nodup),cmp P1 .NotEq (.QH (kt kv)) (.QH (kt kv))=some false:=by iterate 4
 have:cmp P1 .NotEq (.QH (kt kv)) (.QH (kt kv))=some (!tH (kt kv) (kt kv)):=by rfl'
 rw [this];have:tH (kt kv) (kt kv)=true:=by unfold tH;rw [ai];refine ⟨by simp,aj.mpr fun p hp=>?_⟩;obtain ⟨q,hq,rfl⟩:=aH.mp hp;rw [pz (hk q hq) hk,rY hn hq];simp
 rw [this];rfl
theorem OQ:(SR.all fun t=>t.words.all fun w=>w.2.length==3&&w.2.all fun i=>decide (i<3))=true:=by iterate 0 decide+kernel
theorem ON:(SQ.all fun t=>t.words.all fun w=>w.2.length==4&&w.2.all fun i=>decide (i<4))=true:=by iterate 0 decide+kernel
theorem FE:(SR.all fun t=>t.words.length==4&&decide (t.size<=30)&&decide (t.dep<=3))=true:=by iterate 0 decide+kernel
theorem HH:(SQ.all fun t=>t.words.length==8&&decide (t.size<=30)&&decide (t.dep<=3))=true:=by iterate 0 decide+kernel
theorem ND:∀ {t:BT} {p:List Nat} {f:Nat->Nat} (h:∀ w∈t.words,∀ i∈w.2,i<p.length),oQ t (p.map f)=Ed f (oQ t p):=by iterate 4 unfold oQ Ed;rw [b7];refine cN fun w hw=>?_;simp only [dC,b7,cR,true_and];refine cN fun i hi=>?_;have:=h w hw i hi;simp [this]
structure Fin (t:BT) (cs:List Nat):Prop where
 led:∀ x∈cs,xJ (qi t cs) cs x=true
 bnd:∀ p∈qi t cs, -1000<=p.2/\p.2<=1000
 lay:∀ w∈oQ t cs,∀ j<cs.length-1,uc (qi t cs) (w.2.take (j+1)) (w.2.drop (j+1))=0
theorem G0:∀ {t:BT} {cs:List Nat} (hc:∀ x∈cs,x∈codesN) (hi:∀ w∈t.words,∀ i∈w.2,i<cs.length) (hp:Oz t (pS cs)=true),Fin t cs:=by iterate 5
 have hf:=Dn (cs:=cs) fun x hx=>by have:=sD (hc x hx);omega
 have e:=De cs;have hl:(pS cs).length=cs.length:=by simp [pS]
 have ew:oQ t cs=Ed (ER cs) (oQ t (pS cs)):=by have:=ND (t:=t) (p:=pS cs) (f:=ER cs) (by rw [hl];exact hi);rw [e] at this;exact this
 have ek:qi t cs=rn (ER cs) (qi t (pS cs)):=by unfold qi;rw [ew,show ([]:KV)=rn (ER cs) [] from rfl,Di hf];rfl
 unfold Oz at hp;simp only [ai] at hp;obtain ⟨⟨h1,h2⟩,h3⟩:=hp;refine ⟨fun x hx=>?_,fun p hpp=>?_,fun w hw j hj=>?_⟩
 ·rw [ek];have hx2:x∈(pS cs).map (ER cs):=by rw [e];exact hx
  obtain ⟨y,hy,rfl⟩:=aH.mp hx2;have:=HC hf (qi t (pS cs)) (pS cs) y;rw [e] at this;rw [this];exact aj.mp h1 y hy
 ·rw [ek] at hpp;obtain ⟨q,hq,rfl⟩:=aH.mp hpp;have:=aj.mp h2 q hq;simpa using this
 ·rw [ew] at hw;obtain ⟨v,hv,rfl⟩:=aH.mp hw;have:=aj.mp (aj.mp h3 v hv) j (cz.mpr (by rw [hl];exact hj));rw [ek];dsimp only;rw [<-kn,<-nq,IU hf];simpa using this
theorem Fv:∀ {cs:List Nat} (hc:∀ x∈cs,x∈codesN),∀ x∈cs,0<x/\x<64:=by iterate 2 exact (fun x hx=>by have:=sD (hc x hx);omega)
theorem Kr:∀ {t:BT} {cs:List Nat} {L:Nat} (hc:∀ x∈cs,x∈codesN) (hi:∀ w∈t.words,w.2.length=L/\∀ i∈w.2,i<cs.length),∀ w∈oQ t cs,Lt L w.2:=by iterate 5
 exact (fun w hw=>by
 obtain ⟨v,hv,rfl⟩:=aH.mp hw;refine ⟨by simpa using (hi v hv).1,fun x hx=>?_⟩;obtain ⟨i,hii,rfl⟩:=aH.mp hx;have h:=(hi v hv).2 i hii;refine Fv hc _ ?_;rw [bl,au h];exact b5 h)
theorem G3:∀ {L:Nat} {r:List Nat} (h:Lt L r) (hL:L=3\/L=4),(yB r).length<=8:=by iterate 4
 have hl:=h.1;rcases hL with rfl | rfl
 ·obtain ⟨a,b,c,rfl⟩:=Jk hl;exact kW rfl
 ·obtain ⟨a,r,rfl⟩:=bT hl;obtain ⟨b,c,d,rfl⟩:=Jk (cJ hl);exact kW rfl
theorem B2:∀ {u:List Un} {o:List Nat} {c:Int} (h:Sw u o c),tn 0 (ga false (u++[(false,41)]))=false/\tn 0 (ga false (u++[(false,41),(false,40)]))=false/\q9 false (u++[(false,41)])=true/\q9 false (u++[(false,41),(false,40)])=true/\(u++[(false,41)]).all zL=true/\(u++[(false,41),(false,40)]).all zL=true:=by iterate 4
 have e1:=qB (V:=[(false,41)]) u false h.b;have e2:=qB (V:=[(false,41),(false,40)]) u false h.b;have hn:=h.n;rw [<-h.s] at hn;have s2:ga false [(false,41),(false,40)]=[(false,41),(false,40)]:=by rw [pK (by decide),pK (by decide)];rfl
 have b2:q9 false [(false,41),(false,40)]=true:=by rw [uN (by decide),uN (by decide)];rfl
 refine ⟨?_,?_,?_,?_,?_,?_⟩
 ·rw [e1.1,zB (by decide),sM _ _ _ hn.1 hn.2];rfl
 ·rw [e2.1,s2,sM _ _ _ hn.1 hn.2];rfl
 ·rw [e1.2];exact JL (by decide)
 ·rw [e2.2];exact b2
 ·rw [jC,h.w];rfl
 ·rw [jC,h.w];rfl
noncomputable def BT.it:BT->Nat->It
| .leaf i,_=> .lf i
| .node _ _,n=> .nt n
noncomputable def BT.UW:BT->Nat->List (It×It)
| .leaf _,_=>[]
| .node l r,n=>(l.it (n+1),r.it (n+1+(l.UW (n+1)).length))::(l.UW (n+1)++r.UW (n+1+(l.UW (n+1)).length))
noncomputable def BT.wI (t:BT):List CI:=t.words.map fun w=>(w.1,w.2.map .lf)
theorem Pd:∀ t∈SR,Fy (t.UW 0) 7 [(1,[.nt 0])] []=some ([],t.wI):=by iterate 0 exact (t5 ⟨by decide+kernel,by decide+kernel⟩)
theorem Pa:∀ t∈SQ,Fy (t.UW 0) 15 [(1,[.nt 0])] []=some ([],t.wI):=by iterate 0 exact (tP ⟨by decide+kernel,by decide+kernel,by decide+kernel,by decide+kernel,by decide+kernel⟩)
theorem KD:∀ (cd:Nat->Int),∀ (t:BT) (n:Nat),t.Qz cd n=sx cd (t.UW n)/\(t.nm cd n=(t.it n).v cd):=by iterate 1
 intro t;induction t with
 | leaf i=>intro n;exact ⟨rfl,rfl⟩
 | node l r TA Tz=>
  intro n;have h1:=TA (n+1);have h2:=fun k=>Tz k;have hl:(l.Qz cd (n+1)).length=(l.UW (n+1)).length:=by rw [h1.1];simp [sx]
  refine ⟨?_,rfl⟩;(dsimp only [BT.Qz];dsimp only [BT.UW];rw [hl,h1.1,(h2 _).1,h1.2,(h2 _).2]);simp [sx]
noncomputable def rN (i:Nat):Stmt:=at_ (fb P1 "law") i
noncomputable abbrev lwC:aX:=fsc P1 "law"
noncomputable abbrev pa (i m:Nat) (T:Qr) (g:G) (x:Str) (d:D) (g':G):Prop:=ceS P1 (m+250) lwC ⟨T,[],none⟩ (rN i) g=some (.next,⟨(x,d)::T,[],none⟩,g')
theorem zD:∀ {i m:Nat} {T:Qr} {g g1 g2:G} {x:Str} {d d':D} (h:ceS P1 (m+250) lwC ⟨T,[],none⟩ (rN i) g=some (.next,⟨(x,d)::T,[],none⟩,g1)) (hd:d=d') (hg:g1=g2),pa i m T g x d' g2:=by iterate 12 subst hd;subst hg;exact h
theorem PF:∀ {m:Nat} {T:Qr} {zs:List Int} {g:G} (h:T.At "script" (.lst (zs.map D.int))) (hl:zs.length<=63),∃ a b c d:Nat,pa 0 m T g "heaps" (.lst [.int a,.int b,.int c,.int d]) g/\a<1000000000000:=by iterate 6 obtain ⟨a,b,c,d,e,h1,_⟩:=E7 (m:=m+188) (g:=g) hl;simp only [aK,aM] at e;refine ⟨a,b,c,d,?_,h1⟩;unfold pa;symm
theorem O2:∀ (n:Nat),aQ (aL (n:Int) 2) 2=((n / 2 % 2:Nat):Int):=by iterate 1 rw [aV _ (by decide),aU _ (by decide)];rfl
theorem PD:∀ {m:Nat} {T:Qr} {zs:List Int} {g:G} (h:T.At "script" (.lst (zs.map D.int))),pa 1 m T g "count" (.int (3+((zs.length / 2 % 2:Nat):Int))) g:=by iterate 5
 rw [<-O2];have e:zs.length=(zs.map D.int).length:=by simp
 rw [e];unfold pa;symm
theorem Py:∀ {m:Nat} {T:Qr} {a b c d:Nat} {g:G} (h:T.At "heaps" (.lst [.int a,.int b,.int c,.int d])),∃ p q r s:Nat,pa 2 m T g "letters" (.lst [.int p,.int q,.int r,.int s]) g/\p∈codesN/\q∈codesN/\r∈codesN/\s∈codesN:=by iterate 8 obtain ⟨p,q,r,s,e,h1⟩:=Cu (m:=m+188) (h:=(b:Int)) (g:=g);simp only [aK,aM] at e;refine ⟨p,q,r,s,?_,h1⟩;unfold pa;symm
noncomputable def tT (L:List Nat) (x:Int):Nat:=L.getD (aQ x 4).toNat 9
theorem Km:∀ (x:Int),∃ k:Nat,aQ x 4=k/\k<4:=by iterate 1 have h:=cy x (show (0:Int)<4 by decide);have h2:=cV x (show (0:Int)<4 by decide);exact ⟨(aQ x 4).toNat,by omega,by omega⟩
theorem rL:∀ (p q r s:Nat) (x:Int),subD P1 (.lst [.int p,.int q,.int r,.int s]) (.int (aQ x 4))=some (.int (tT [p,q,r,s] x)):=by iterate 5 obtain ⟨k,hk,h4⟩:=Km x;unfold tT;rw [hk];rcases (show k=0\/k=1\/k=2\/k=3 by omega) with rfl | rfl | rfl | rfl<;>rfl
theorem rJ:∀ {p q r s:Nat} (hp:p∈codesN) (hq:q∈codesN) (hr:r∈codesN) (hs:s∈codesN) (x:Int),tT [p,q,r,s] x∈codesN:=by iterate 9
 obtain ⟨k,hk,h4⟩:=Km x;unfold tT;rw [hk];rcases (show k=0\/k=1\/k=2\/k=3 by omega) with rfl | rfl | rfl | rfl
 ·exact hp
 ·exact hq
 ·exact hr
 ·exact hs
theorem M0:∀ {m:Nat} {T:Qr} {a b c d p q r s:Nat} {g:G} (h:T.At "heaps" (.lst [.int a,.int b,.int c,.int d])) (h2:T.At "count" (.int 3)) (h3:T.At "letters" (.lst [.int p,.int q,.int r,.int s])) (hp:p∈codesN) (hq:q∈codesN) (hr:r∈codesN) (hs:s∈codesN),∃ x y z:Nat,pa 3 m T g "codes" (.lst [.int x,.int y,.int z]) g/\x∈codesN/\y∈codesN/\z∈codesN:=by iterate 18 refine ⟨tT [p,q,r,s] (aL c 1),tT [p,q,r,s] (aL c 4),tT [p,q,r,s] (aL c 16),?_,rJ hp hq hr hs _,rJ hp hq hr hs _,rJ hp hq hr hs _⟩;have s0:=rL p q r s (aL c 1);have s1:=rL p q r s (aL c 4);have s2:=rL p q r s (aL c 16);unfold pa;symm
theorem Of:∀ {m:Nat} {T:Qr} {a b c d p q r s:Nat} {g:G} (h:T.At "heaps" (.lst [.int a,.int b,.int c,.int d])) (h2:T.At "count" (.int 4)) (h3:T.At "letters" (.lst [.int p,.int q,.int r,.int s])) (hp:p∈codesN) (hq:q∈codesN) (hr:r∈codesN) (hs:s∈codesN),∃ x y z u:Nat,pa 3 m T g "codes" (.lst [.int x,.int y,.int z,.int u]) g/\x∈codesN/\y∈codesN/\z∈codesN/\u∈codesN:=by iterate 18 refine ⟨tT [p,q,r,s] (aL c 1),tT [p,q,r,s] (aL c 4),tT [p,q,r,s] (aL c 16),tT [p,q,r,s] (aL c 64),?_,rJ hp hq hr hs _,rJ hp hq hr hs _,rJ hp hq hr hs _,rJ hp hq hr hs _⟩;have s0:=rL p q r s (aL c 1);have s1:=rL p q r s (aL c 4);have s2:=rL p q r s (aL c 16);have s3:=rL p q r s (aL c 64);unfold pa;symm
noncomputable def wY (h:Nat) (cs:List Nat) (i:Nat):List Un:=Bq i (yr (aL h ((8 ^ i:Nat):Int))) (cs.getD i 9)
noncomputable def PZ (cs:List Nat) (i:Nat):List Nat:=D6 (cs.getD i 9)
noncomputable def rT (cs:List Nat) (i:Nat):Int:=((cs.getD i 9:Nat):Int)
theorem xI:∀ {cs:List Nat} (hc:∀ x∈cs,x∈codesN) (i:Nat),cs.getD i 9∈codesN:=by iterate 3 rw [bl];cases e:cs[i]? with | none=>exact (by decide:(9:Nat)∈codesN) | some x=>exact hc x (bL e)
theorem GB:∀ {cs:List Nat} (h:Nat) (hc:∀ x∈cs,x∈codesN) (i:Nat),Sw (wY h cs i) (PZ cs i) (rT cs i):=by iterate 4 exact ((KA (BU _) (xI hc i)).1)
theorem GR:∀ {cs:List Nat} (h:Nat) (hc:∀ x∈cs,x∈codesN) (i:Nat),9∉gl (wY h cs i)/\13∉gl (wY h cs i):=by iterate 4 exact ((KA (BU _) (xI hc i)).2)
theorem FW:∀ {cs:List Nat} (hc:∀ x∈cs,x∈codesN) (i:Nat),rT cs i<256:=by iterate 3 have:=sD (xI hc i);unfold rT;omega
theorem MY:∀ {m:Nat} {T:Qr} {a b c d:Nat} {g:G} (h:T.At "heaps" (.lst [.int a,.int b,.int c,.int d])) (h2:T.At "count" (.int 3)),pa 4 m T g "tree" (qU false a).d g:=by iterate 9 have e:ceCall P1 (m+248) "_law_tree" [.int 3,.int a] g=some ((qU false a).d,g):=Dg (m:=m+218) (h:=a) (four:=false) (g:=g);unfold pa;symm
theorem Nt:∀ {m:Nat} {T:Qr} {a b c d x y z:Nat} {g:G} (h:T.At "heaps" (.lst [.int a,.int b,.int c,.int d])) (h2:T.At "codes" (.lst [.int x,.int y,.int z])) (hx:x∈codesN) (hy:y∈codesN) (hz:z∈codesN),pa 5 m T g "leaves" (.lst [.str (gl (wY d [x,y,z] 0)),.str (gl (wY d [x,y,z] 1)),.str (gl (wY d [x,y,z] 2))]) g:=by iterate 15 have e:=Jc (m:=m+188) (h:=(d:Int)) (g:=g) hx hy hz;simp only [aK,aM] at e;unfold pa;symm;exact e.trans (by rfl')
theorem HW:∀ (lf:Nat->List Un) (cd:Nat->Int),∀ t∈SR,y9 t (.str [40]) (.str [44]) (.str [41]) [.str (gl (lf 0)),.str (gl (lf 1)),.str (gl (lf 2))]=pD (t.Q7 lf cd):=by iterate 2 exact (t5 ⟨rfl,rfl⟩)
theorem Nk:∀ {m:Nat} {T:Qr} {lf:Nat->List Un} {cd:Nat->Int} {t:BT} {g:G} (ht:t∈SR) (h:T.At "tree" t.d) (h2:T.At "leaves" (.lst [.str (gl (lf 0)),.str (gl (lf 1)),.str (gl (lf 2))])),pa 6 m T g "pieces" (.lst (pD (t.Q7 lf cd))) g:=by iterate 9 have e:=N1 (m:=m+158) (o:= .str [40]) (c:= .str [44]) (k:= .str [41]) (x:= .str (gl (lf 0))) (y:= .str (gl (lf 1))) (z:= .str (gl (lf 2))) (g:=g) t ht;simp only [aK,aM] at e;rw [HW lf cd t ht] at e;unfold pa;symm;refine kR ?_ e;rfl'
theorem Nv:∀ {m:Nat} {T:Qr} {a b c d:Nat} {g:G} (h:T.At "heaps" (.lst [.int a,.int b,.int c,.int d])) (h2:T.At "count" (.int 4)),pa 4 m T g "tree" (qU true a).d g:=by iterate 9 have e:ceCall P1 (m+248) "_law_tree" [.int 4,.int a] g=some ((qU true a).d,g):=Dg (m:=m+218) (h:=a) (four:=true) (g:=g);unfold pa;symm
theorem Nc:∀ {m:Nat} {T:Qr} {a b c d x y z u:Nat} {g:G} (h:T.At "heaps" (.lst [.int a,.int b,.int c,.int d])) (h2:T.At "codes" (.lst [.int x,.int y,.int z,.int u])) (hx:x∈codesN) (hy:y∈codesN) (hz:z∈codesN) (hu:u∈codesN),pa 5 m T g "leaves" (.lst [.str (gl (wY d [x,y,z,u] 0)),.str (gl (wY d [x,y,z,u] 1)),.str (gl (wY d [x,y,z,u] 2)),.str (gl (wY d [x,y,z,u] 3))]) g:=by iterate 17 have e:=Jp (m:=m+188) (h:=(d:Int)) (g:=g) hx hy hz hu;simp only [aK,aM] at e;unfold pa;symm;exact e.trans (by rfl')
theorem HS:∀ (lf:Nat->List Un) (cd:Nat->Int),∀ t∈SQ,y9 t (.str [40]) (.str [44]) (.str [41]) [.str (gl (lf 0)),.str (gl (lf 1)),.str (gl (lf 2)),.str (gl (lf 3))]=pD (t.Q7 lf cd):=by iterate 2 exact (tP ⟨rfl,rfl,rfl,rfl,rfl⟩)
theorem M9:∀ {m:Nat} {T:Qr} {lf:Nat->List Un} {cd:Nat->Int} {t:BT} {g:G} (ht:t∈SQ) (h:T.At "tree" t.d) (h2:T.At "leaves" (.lst [.str (gl (lf 0)),.str (gl (lf 1)),.str (gl (lf 2)),.str (gl (lf 3))])),pa 6 m T g "pieces" (.lst (pD (t.Q7 lf cd))) g:=by iterate 9 have e:=Oh (m:=m+158) (o:= .str [40]) (c:= .str [44]) (k:= .str [41]) (x:= .str (gl (lf 0))) (y:= .str (gl (lf 1))) (z:= .str (gl (lf 2))) (u:= .str (gl (lf 3))) (g:=g) t ht;simp only [aK,aM] at e;rw [HS lf cd t ht] at e;unfold pa;symm;refine kR ?_ e;rfl'
theorem Pv:∀ {m:Nat} {T:Qr} {a b c d:Nat} {g:G} (h:T.At "heaps" (.lst [.int a,.int b,.int c,.int d])),pa 7 m T g "mode" (.int ((a / 10 % 3:Nat):Int)) g:=by iterate 8
 have e:aQ (aL (a:Int) 10) 3=((a / 10 % 3:Nat):Int):=by rw [aV _ (by decide),aU _ (by decide)];rfl
 rw [<-e];unfold pa;symm
theorem Ji:∀ (x:Nat),subD P1 (.str [10,9,13,32]) (.int (aQ (aL (x:Int) 30) 4))=some (.str [([10,9,13,32]:List Nat).getD (x / 30 % 4) 10]):=by iterate 1
 have e:aQ (aL (x:Int) 30) 4=((x / 30 % 4:Nat):Int):=by rw [aV _ (by decide),aU _ (by decide)];rfl
 rw [e];have h4:x / 30 % 4<4:=bR _ (by decide);generalize x / 30 % 4=k at h4;rcases (show k=0\/k=1\/k=2\/k=3 by omega) with rfl | rfl | rfl | rfl<;>rfl
theorem PJ:∀ {m:Nat} {T:Qr} {a b c d mo:Nat} {g:G} (hm:mo<3) (h:T.At "heaps" (.lst [.int a,.int b,.int c,.int d])) (h2:T.At "mode" (.int (mo:Int))),pa 8 m T g "gap" (.str (qV mo (a / 30 % 4))) g:=by iterate 11
 have e:=Ji a;unfold pa;rcases (show mo=0\/mo=1\/mo=2 by omega) with rfl | rfl | rfl
 ·symm
 ·symm
 ·symm
theorem vW:∀ (t:BT) (lf:Nat->List Un) (cd:Nat->Int),(t.Q7 lf cd).flatMap (·.1)=t.un lf:=by iterate 3 rw [List.flatMap_def,BT.Q7,BT.S9];rfl
theorem Js:∀ (mo:Nat),(yn mo).length<=1:=by iterate 1 unfold yn;split<;>simp
theorem Iv:∀ (mo i:Nat),(qV mo i).length<=1:=by iterate 2 unfold qV;split<;>simp
theorem PC:∀ {m:Nat} {T:Qr} {t:BT} {lf:Nat->List Un} {cd:Nat->Int} {mo i:Nat} {g:G} (hl:(gl (t.un lf)).length<800) (hm:mo<3) (h:T.At "pieces" (.lst (pD (t.Q7 lf cd)))) (h2:T.At "mode" (.int (mo:Int))) (h3:T.At "gap" (.str (qV mo i))),pa 9 m T g "text" (.str (pe mo i (gl (t.un lf)))) g:=by iterate 13
 have hj:=zr (P:=t.Q7 lf cd) (g:=g) (by rw [vW];unfold lim;omega);rw [vW] at hj;have e:=Cr (m:=m+185) (mo:=mo) (w:=gl (t.un lf)) (g:=g) hm (by omega);simp only [aK,aM] at e;have l1:=yW (zE mo (gl (t.un lf))) (gl (t.un lf));have l2:=Js mo;have l3:=Iv mo i;unfold pe;generalize hS:yn mo++lm (zE mo (gl (t.un lf))) (gl (t.un lf))++yn mo=S at *;have l4:S.length<=1700:=by rw [<-hS,aw,aw];omega
 have a1:=rG (a:=[13,9,32,10]) (b:=S) (by rw [aw];simp [lim];omega);have a2:=rG (a:=[13,9,32,10]++S) (b:=qV mo i) (by rw [aw,aw];simp [lim];omega);have a3:=rG (a:=[13,9,32,10]++S++qV mo i) (b:=[101,110,100]) (by rw [aw,aw,aw];simp [lim];omega);generalize qV mo i=gp at *;unfold pa;clear hS l1 l2 l3 l4;symm
noncomputable def gT (cs:List Nat) (ln:Int):G:=[.sg cs,.lex ln (some 0) []]
theorem NL:∀ {m:Nat} {T:Qr} {tx:List Nat} (h:T.At "text" (.str tx)),pa 10 m T [] "lexer" (.loc 1) (gT tx 1):=by iterate 4 have e:ceCall P1 (m+248) "_law_lexer" [.str tx] []=some (.loc 1,gT tx 1):=qM (h:=uZ) (by rfl') (by omega) (by rfl);unfold pa;symm
theorem PE:∀ {cs:List Nat} {ln:Int},methD "get_token" (.loc 1) [] (gT cs ln)=some (.str (tok cs ln).1,gT (tok cs ln).2.1 (tok cs ln).2.2):=by iterate 2 rfl'
theorem Ov:∀ {m:Nat} {T:Qr} {tx w r:List Nat} {ln:Int} (h:T.At "lexer" (.loc 1)) (ht:tok tx 1=(w,r,ln)),pa 11 m T (gT tx 1) "word" (.str w) (gT r ln):=by iterate 8
 have e1:(tok tx 1).1=w:=by rw [ht]
 have e2:gT (tok tx 1).2.1 (tok tx 1).2.2=gT r ln:=by rw [ht]
 refine zD ?_ (congrArg D.str e1) e2;symm
theorem MT:∀ {m:Nat} {T:Qr} {t:BT} {lf:Nat->List Un} {op:Nat->List Nat} {cd:Nat->Int} {g:G} (ahg:∀ i,Sw (lf i) (op i) (cd i)) (hs:t.size<=30) (h:T.At "word" (.str (gl (t.un lf)))),pa 12 m T g "told" (.lst ((t.Q6 cd).map D.int)) g:=by iterate 10 have e:=FI (m:=m+168) ahg hs (g:=g);simp only [aK,aM] at e;unfold pa;symm
theorem NU:∀ {m:Nat} {T:Qr} {cs:List Nat} {ln:Int},pa 13 m T (gT cs ln) "table" (.loc 2) (gD cs ln [] []):=by iterate 4 unfold pa;symm
noncomputable abbrev uI (i m:Nat) (T:Qr) (g g':G):Prop:=ceS P1 (m+250) lwC ⟨T,[],none⟩ (rN i) g=some (.next,⟨T,[],none⟩,g')
theorem Hx:∀ (t:BT) (lf:Nat->List Un) (cd:Nat->Int),cD (t.Q7 lf cd)=(t.Q6 cd).map D.int:=by iterate 3 rw [<-Dx (lf:=lf)];simp [cD]
theorem Ga:∀ (w:List Nat),cmp P1 .NotEq (.str w) (.str w)=some false:=by iterate 1
 have:cmp P1 .NotEq (.str w) (.str w)=some (!(w==w)):=by rfl'
 rw [this];simp
theorem GV:∀ (x y z:Nat),∀ t∈SR,y9 t (.int 7) (.int 12) (.int 8) [.int x,.int y,.int z]=(t.Q6 (rT [x,y,z])).map D.int:=by iterate 3 exact (t5 ⟨rfl,rfl⟩)
theorem PU:∀ (cd:Nat->Int),∀ t∈SR,t.nm cd 0=256:=by iterate 1 exact (t5 ⟨rfl,rfl⟩)
theorem LK:∀ {m x y z:Nat} {T:Qr} {t:BT} {lf:Nat->List Un} {op:Nat->List Nat} {cs:List Nat} {ln:Int} (ht:t∈SR) (ahg:∀ i,Sw (lf i) (op i) (rT [x,y,z] i)) (h1:T.At "word" (.str (gl (t.un lf)))) (h2:T.At "pieces" (.lst (pD (t.Q7 lf (rT [x,y,z]))))) (h3:T.At "told" (.lst ((t.Q6 (rT [x,y,z])).map D.int))) (h4:T.At "tree" t.d) (h5:T.At "codes" (.lst [.int x,.int y,.int z])) (h6:T.At "table" (.loc 2)),uI 14 m T (gD cs ln [] []) (gD cs ln [] (t.Qz (rT [x,y,z]) 0)):=by iterate 18
 have hq:=aj.mp FE t ht;simp only [ai,decide_eq_true_eq,beq_iff_eq] at hq;have Us:=A3 ahg t;have hj:=zr (P:=t.Q7 lf (rT [x,y,z])) (g:=gD cs ln [] []) (by rw [vW];unfold lim;omega);rw [vW] at hj;have c1:=Ga (gl (t.un lf));have e2:=N1 (m:=m+154) (o:= .int 7) (c:= .int 12) (k:= .int 8) (x:= .int x) (y:= .int y) (z:= .int z) (g:=gD cs ln [] []) t ht;simp only [aK,aM] at e2;rw [GV x y z t ht] at e2;have c2:=Dl (t.Q6 (rT [x,y,z]));have e3:=CU ahg t (m+243) 2 (gD cs ln [] []) [] (by omega) hq.1.2 rfl (by simp;omega);rw [Hx,hG,PU _ t ht,a9] at e3;have e3:ceCall P1 (m+243) "_law_read" [.lst (pD (t.Q7 lf (rT [x,y,z]))),.lst ((t.Q6 (rT [x,y,z])).map D.int),.loc 2] (gD cs ln [] [])=some (.int 256,gD cs ln [] (t.Qz (rT [x,y,z]) 0)):=e3;have hle:((t.Q6 (rT [x,y,z])).map D.int).length<=lim:=by rw [aG,vz];unfold lim;omega
 unfold gD at *;unfold uI;symm
theorem Ha:∀ (x y z u:Nat),∀ t∈SQ,y9 t (.int 7) (.int 12) (.int 8) [.int x,.int y,.int z,.int u]=(t.Q6 (rT [x,y,z,u])).map D.int:=by iterate 4 exact (tP ⟨rfl,rfl,rfl,rfl,rfl⟩)
theorem P8:∀ (cd:Nat->Int),∀ t∈SQ,t.nm cd 0=256:=by iterate 1 exact (tP ⟨rfl,rfl,rfl,rfl,rfl⟩)
theorem L7:∀ {m x y z u:Nat} {T:Qr} {t:BT} {lf:Nat->List Un} {op:Nat->List Nat} {cs:List Nat} {ln:Int} (ht:t∈SQ) (ahg:∀ i,Sw (lf i) (op i) (rT [x,y,z,u] i)) (h1:T.At "word" (.str (gl (t.un lf)))) (h2:T.At "pieces" (.lst (pD (t.Q7 lf (rT [x,y,z,u]))))) (h3:T.At "told" (.lst ((t.Q6 (rT [x,y,z,u])).map D.int))) (h4:T.At "tree" t.d) (h5:T.At "codes" (.lst [.int x,.int y,.int z,.int u])) (h6:T.At "table" (.loc 2)),uI 14 m T (gD cs ln [] []) (gD cs ln [] (t.Qz (rT [x,y,z,u]) 0)):=by iterate 19
 have hq:=aj.mp HH t ht;simp only [ai,decide_eq_true_eq,beq_iff_eq] at hq;have Us:=A3 ahg t;have hj:=zr (P:=t.Q7 lf (rT [x,y,z,u])) (g:=gD cs ln [] []) (by rw [vW];unfold lim;omega);rw [vW] at hj;have c1:=Ga (gl (t.un lf));have e2:=Oh (m:=m+154) (o:= .int 7) (c:= .int 12) (k:= .int 8) (x:= .int x) (y:= .int y) (z:= .int z) (u:= .int u) (g:=gD cs ln [] []) t ht;simp only [aK,aM] at e2;rw [Ha x y z u t ht] at e2;have c2:=Dl (t.Q6 (rT [x,y,z,u]));have e3:=CU ahg t (m+243) 2 (gD cs ln [] []) [] (by omega) hq.1.2 rfl (by simp;omega);rw [Hx,hG,P8 _ t ht,a9] at e3;have e3:ceCall P1 (m+243) "_law_read" [.lst (pD (t.Q7 lf (rT [x,y,z,u]))),.lst ((t.Q6 (rT [x,y,z,u])).map D.int),.loc 2] (gD cs ln [] [])=some (.int 256,gD cs ln [] (t.Qz (rT [x,y,z,u]) 0)):=e3;have hle:((t.Q6 (rT [x,y,z,u])).map D.int).length<=lim:=by rw [aG,vz];unfold lim;omega
 unfold gD at *;unfold uI;symm
theorem M3:∀ {m:Nat} {T:Qr} {u:List Un} {o:List Nat} {c:Int} {rest:List D} {g:G} (ahg:Sw u o c) (h:T.At "leaves" (.lst (.str (gl u)::rest))),uI 15 m T g g:=by iterate 9
 obtain ⟨p1,p2,p3,p4,p5,p6⟩:=B2 ahg;have hk:=ahg.k;have l1:(gl (u++[(false,41)])).length<=30:=by rw [qQ,aw];simp [gl,pg,ph] at hk ⊢;omega
 have l2:(gl (u++[(false,41),(false,40)])).length<=30:=by rw [qQ,aw];simp [gl,pg,ph] at hk ⊢;omega
 have a1:binop .Add (.str (gl u)) (.str [41])=some (.str (gl (u++[(false,41)]))):=by have:=rG (a:=gl u) (b:=[41]) (by rw [aw];simp [lim];omega);rw [this,qQ];rfl
 have a2:binop .Add (.str (gl u)) (.str [41,40])=some (.str (gl (u++[(false,41),(false,40)]))):=by have:=rG (a:=gl u) (b:=[41,40]) (by rw [aw];simp [lim];omega);rw [this,qQ];rfl
 have e1:=uH (m:=m+175) (g:=g) p5 p3 (by omega);have e2:=uH (m:=m+174) (g:=g) p6 p4 (by omega);rw [p1] at e1;rw [p2] at e2;simp only [aK,aM] at e1 e2;unfold uI;symm
noncomputable def wN (w:Int×List Nat):D:= .tup [.int w.1,px w.2]
theorem Gy:∀ (t:BT) (cs:List Nat),t.wI.map (qD (rT cs))=(oQ t cs).map wN:=by iterate 2 unfold BT.wI oQ;rw [b7,b7];refine cN fun w _=>?_;simp only [dC,qD,wN,px,o9,b7];rfl
theorem J6:∀ (t:BT) (cs:List Nat),cmp P1 .NotEq (.lst ((oQ t cs).map wN)) (.lst ((oQ t cs).map wN))=some false:=by iterate 2 rw [<-Gy];exact I9 _ _
theorem Jo:∀ {k:Nat} {row:List Nat} {g:G} (hb:∀ x∈row,x<64) (hl:row.length<=4),ceCall P1 (k+31) "_digits2int" [.lst (row.map fun x:Nat=>D.int x).reverse,.int 6] g=some (.int (ca row:Nat),g):=by iterate 5 have:=FO (k:=k+30) (n:=6) (l:=row.reverse) (g:=g) (by omega) (by decide) (by rw [ed];omega) (fun d hd=>hb d (dm.mp hd));rw [cu,dq] at this;exact this
noncomputable def Od:Expr:=Ni (yo (rN 17)) [1]
theorem D0:∀ {m L:Nat} {T:Qr} {ws:List (Int×List Nat)} {g:G} (hL:L<=4) (hw:∀ w∈ws,Lt L w.2),iterLoop (tq (m+100) lwC ⟨T,[],none⟩ Od) (ws.map wN) [] g=some ((ws.map rH).map rq,g,none):=by iterate 7
 rw [b7];refine qF (F:=fun w=>rq (rH w)) fun w h acc=>?_;have hh:=hw w h;have e:=fun k=>Jo (k:=k) (row:=w.2) (g:=g) hh.lt (by rw [hh.1];exact hL);unfold tq;symm
 ·exact e (m+65)
 symm
theorem Mf:∀ {m:Nat} {T:Qr} {t:BT} {cl:List Nat} {cs:List Nat} {ln:Int} (ht:t∈SR) (hc:∀ x∈cl,x∈codesN) (h1:T.At "lexer" (.loc 1)) (h2:T.At "table" (.loc 2)) (h3:T.At "count" (.int 3)),pa 16 m T (gD cs ln [] (t.Qz (rT cl) 0)) "words" (.lst ((oQ t cl).map wN)) (gD cs ln [] (t.Qz (rT cl) 0)):=by iterate 11
 have e:=Dv (m:=m+168) (n:=7) (cd:=rT cl) (FW hc) (t:=cs) (ln:=ln) (tb:=t.UW 0) (W:=t.wI) (by decide) (Pd t ht);simp only [aK,aM] at e;rw [<-(KD (rT cl) t 0).1,Gy] at e;unfold gD at *;unfold pa;symm
 ·refine kR ?_ e;rfl'
 symm
theorem DS:∀ (x y z:Nat),∀ t∈SR,t.words.map (CV [x,y,z])=(oQ t [x,y,z]).map wN:=by iterate 3 exact (t5 ⟨rfl,rfl⟩)
theorem LG:∀ {m:Nat} {T:Qr} {t:BT} {cl:List Nat} {cs:List Nat} {ln:Int} (ht:t∈SQ) (hc:∀ x∈cl,x∈codesN) (h1:T.At "lexer" (.loc 1)) (h2:T.At "table" (.loc 2)) (h3:T.At "count" (.int 4)),pa 16 m T (gD cs ln [] (t.Qz (rT cl) 0)) "words" (.lst ((oQ t cl).map wN)) (gD cs ln [] (t.Qz (rT cl) 0)):=by iterate 11
 have e:=Dv (m:=m+168) (n:=15) (cd:=rT cl) (FW hc) (t:=cs) (ln:=ln) (tb:=t.UW 0) (W:=t.wI) (by decide) (Pa t ht);simp only [aK,aM] at e;rw [<-(KD (rT cl) t 0).1,Gy] at e;unfold gD at *;unfold pa;symm
 ·refine kR ?_ e;rfl'
 symm
theorem DJ:∀ (x y z u:Nat),∀ t∈SQ,t.words.map (CV [x,y,z,u])=(oQ t [x,y,z,u]).map wN:=by iterate 4 exact (tP ⟨rfl,rfl,rfl,rfl,rfl⟩)
theorem AM:∀ {t:BT} {cs:List Nat} {L:Nat} (hw:∀ w∈oQ t cs,Lt L w.2),AF ((oQ t cs).map rH) []=kt (qi t cs)/\KL L (qi t cs)/\((qi t cs).map (·.1)).Nodup:=by iterate 4 have:=wt (ws:=oQ t cs) (kv:=[]) hw (fun p hp=>by cases hp);refine ⟨this.1,this.2,xn (by simp)⟩
theorem so:∀ (t:BT) (cs:List Nat),(oQ t cs).length=t.words.length:=by iterate 2 simp [oQ]
theorem NO:∀ {m L:Nat} {T:Qr} {t:BT} {cs:List Nat} {g:G} (hL:L<=4) (hw:∀ w∈oQ t cs,Lt L w.2) (hl:t.words.length<=8) (h:T.At "words" (.lst ((oQ t cs).map wN))),pa 17 m T g "sums" (.QH (kt (qi t cs))) g:=by iterate 10
 have e1:=D0 (m:=m+146) (T:=T) (g:=g) hL hw;have e2:=wX (m:=m+198) (g:=g) (ws:=(oQ t cs).map rH) (by rw [aG,so];omega);rw [(AM hw).1] at e2;simp only [aK,aM] at e1 e2;have hle:(((oQ t cs).map rH).map rq).length<=lim:=by rw [aG,aG,so];unfold lim;omega
 unfold pa;symm
noncomputable def N6:Expr:=Ni (yo (rN 18)) [1,1,1]
theorem yK:∀ {m L:Nat} {T:Qr} {ws:List (Int×List Nat)} {g:G} (hL:L<=4) (hw:∀ w∈ws,Lt L w.2),iterLoop (tq (m+100) lwC ⟨T,[],none⟩ N6) (ws.map wN) [] g=some ((ws.map rH).map rq,g,none):=by iterate 7
 rw [b7];refine qF (F:=fun w=>rq (rH w)) fun w h acc=>?_;have hh:=hw w h;have e:=sh (m:=m+51) (row:=w.2) (g:=g) (by rw [hh.1];exact hL) hh.lt;simp only [aK,aM,px] at e;unfold tq;symm
 ·exact e
 symm
theorem LD:∀ {m x y z:Nat} {T:Qr} {t:BT} {g:G} (ht:t∈SR) (hw:∀ w∈oQ t [x,y,z],Lt 3 w.2) (h:T.At "words" (.lst ((oQ t [x,y,z]).map wN))) (h2:T.At "sums" (.QH (kt (qi t [x,y,z])))) (h3:T.At "tree" t.d) (h4:T.At "codes" (.lst [.int x,.int y,.int z])),uI 18 m T g g:=by iterate 13
 have hq:=aj.mp FE t ht;simp only [ai,decide_eq_true_eq,beq_iff_eq] at hq;have c1:=J6 t [x,y,z];have e0:=Mc (m:=m+155) (x:=x) (y:=y) (z:=z) (g:=g) t ht;rw [DS x y z t ht] at e0;obtain ⟨k1,k2,k3⟩:=AM hw;have c2:=Kc k2 k3;have e1:=yK (m:=m+142) (T:=T) (g:=g) (by decide) hw;have e2:=wX (m:=m+194) (g:=g) (ws:=(oQ t [x,y,z]).map rH) (by rw [aG,so];omega);rw [k1] at e2;simp only [aK,aM] at e0 e1 e2;have hle:(((oQ t [x,y,z]).map rH).map rq).length<=lim:=by rw [aG,aG,so];unfold lim;omega
 clear hw k1 k2 k3;unfold uI;symm
theorem Mr:∀ {m x y z u:Nat} {T:Qr} {t:BT} {g:G} (ht:t∈SQ) (hw:∀ w∈oQ t [x,y,z,u],Lt 4 w.2) (h:T.At "words" (.lst ((oQ t [x,y,z,u]).map wN))) (h2:T.At "sums" (.QH (kt (qi t [x,y,z,u])))) (h3:T.At "tree" t.d) (h4:T.At "codes" (.lst [.int x,.int y,.int z,.int u])),uI 18 m T g g:=by iterate 14
 have hq:=aj.mp HH t ht;simp only [ai,decide_eq_true_eq,beq_iff_eq] at hq;have c1:=J6 t [x,y,z,u];have e0:=Ll (m:=m+155) (x:=x) (y:=y) (z:=z) (u:=u) (g:=g) t ht;rw [DJ x y z u t ht] at e0;obtain ⟨k1,k2,k3⟩:=AM hw;have c2:=Kc k2 k3;have e1:=yK (m:=m+142) (T:=T) (g:=g) (by decide) hw;have e2:=wX (m:=m+194) (g:=g) (ws:=(oQ t [x,y,z,u]).map rH) (by rw [aG,so];omega);rw [k1] at e2;simp only [aK,aM] at e0 e1 e2;have hle:(((oQ t [x,y,z,u]).map rH).map rq).length<=lim:=by rw [aG,aG,so];unfold lim;omega
 clear hw k1 k2 k3;unfold uI;symm
theorem Pf:(SR.all fun t=>t.words.all fun w=>w.1==1 ||w.1== -1)=true:=by iterate 0 decide+kernel
theorem OI:(SQ.all fun t=>t.words.all fun w=>w.1==1 ||w.1== -1)=true:=by iterate 0 decide+kernel
noncomputable def L1 (e:Expr):Str:=((yU e).bind fun q=>qI q.1).getD ""
theorem yZ:∀ {p:bY} {sc:aX} {st:St} {e:Expr} {xs:List D} (h:nameD p sc st (L1 e)=some (.lst xs)),qk p sc st e=none:=by iterate 6
 unfold L1 at h;unfold qk;cases e1:yU e with
 | none=>rfl
 | some q=>
  rw [e1] at h;show (qI q.1).bind _=_;have h:nameD p sc st ((qI q.1).getD "")=some (.lst xs):=h;cases e2:qI q.1 with
  | none=>rfl
  | some y=>
   rw [e2] at h;have h:nameD p sc st y=some (.lst xs):=h;show (if mt y=true then _ else none)=_;split
   ·rw [h];rfl
   ·rfl
theorem Nm:L1 (yo (rN 19))="words" :=by iterate 0 rfl'
theorem wk:∀ (a b c:Nat),aQ (aL (a:Int) (b:Int)) (c:Int)=((a / b % c:Nat):Int):=by iterate 3 rw [aV _ (by omega),aU _ (by omega)];rfl
theorem Mn:∀ (w:List Nat),cmp P1 .Eq (.int (1+nl w)) (.int (1+sT 10 w))=some true:=by iterate 1
 have:cmp P1 .Eq (.int (1+nl w)) (.int (1+sT 10 w))=some ((1+nl w)==(1+sT 10 w)):=by rfl'
 rw [this,show sT 10 w=nl w from rfl];simp
theorem Mh:∀ {m:Nat} {T:Qr} {a b c d:Nat} {t:BT} {cl:List Nat} {g:G} (ht:t∈SR) (h:T.At "words" (.lst ((oQ t cl).map wN))) (h2:T.At "heaps" (.lst [.int a,.int b,.int c,.int d])) (h3:T.At "count" (.int 3)),∃ w∈oQ t cl,ceS P1 (m+250) lwC ⟨T,[],none⟩ (rN 19) g=some (.next,⟨("chosen",px w.2)::("turned",.int w.1)::T,[],none⟩,g):=by iterate 13
 have hq:=aj.mp FE t ht;simp only [ai,decide_eq_true_eq,beq_iff_eq] at hq;have hk:a / 120 % 4<(oQ t cl).length:=by rw [so,hq.1.1];exact bR _ (by decide)
 have hs:subD P1 (.lst ((oQ t cl).map wN)) (.int (aQ (aL (a:Int) 120) 4))=some (wN (oQ t cl)[a / 120 % 4]):=by have e:=wk a 120 4;have e:aQ (aL (a:Int) 120) 4=((a / 120 % 4:Nat):Int):=e;rw [e];exact pX (by simp [hk])
 refine ⟨_,b5 hk,?_⟩;generalize (oQ t cl)[a / 120 % 4]=w at hs;clear hk hq;have hr0:qk P1 lwC ⟨T,[],none⟩ (yo (rN 19))=none:=by refine yZ (xs:=(oQ t cl).map wN) ?_;rw [Nm];symm
 symm
theorem K3:∀ {m:Nat} {T:Qr} {a b c d:Nat} {g:G} (h2:T.At "heaps" (.lst [.int a,.int b,.int c,.int d])) (h3:T.At "count" (.int 3)),pa 20 m T g "cut" (.int ((a / 11520 % 2+1:Nat):Int)) g:=by iterate 9 have e:aQ (aL (a:Int) 11520) 2=((a / 11520 % 2:Nat):Int):=wk a 11520 2;refine zD (d:= .int (1+aQ (aL (a:Int) 11520) 2)) ?_ (by rw [e];congr 1;omega) rfl;symm
theorem KW:∀ {m x y z:Nat} {T:Qr} {a b c d j:Nat} {t:BT} {w:Int×List Nat} {g:G} (ht:t∈SR) (hc:∀ v∈[x,y,z],v∈codesN) (hF:Fin t [x,y,z]) (hw:∀ w∈oQ t [x,y,z],Lt 3 w.2) (hm:w∈oQ t [x,y,z]) (hj:j<2) (h1:T.At "sums" (.QH (kt (qi t [x,y,z])))) (h2:T.At "heaps" (.lst [.int a,.int b,.int c,.int d])) (h3:T.At "count" (.int 3)) (h4:T.At "codes" (.lst [.int x,.int y,.int z])) (h5:T.At "turned" (.int w.1)) (h6:T.At "chosen" (px w.2)) (h7:T.At "cut" (.int ((j+1:Nat):Int))),∃ g',uI 21 m T g (g++g'):=by iterate 26
 have hq:=aj.mp FE t ht;simp only [ai,decide_eq_true_eq,beq_iff_eq] at hq;obtain ⟨k1,k2,k3⟩:=AM hw;have TK:(qi t [x,y,z]).length<=8:=by have:=wn (oQ t [x,y,z]) [];rw [so,hq.1.1] at this;unfold qi;simp at this;omega
 have WW:w.1=1\/w.1= -1:=by have h:=aj.mp Pf t ht;obtain ⟨v,hv,rfl⟩:=aH.mp hm;have:=aj.mp h v hv;simpa using this
 have RH:∀ k,k<3->[x,y,z].getD k 9∈[x,y,z]:=fun k hk=>by rw [bl,au (show k<[x,y,z].length from hk)];exact b5 _
 have hx:=RH (a / 960 % 3) (bR _ (by decide));have hs:subD P1 (.lst [.int x,.int y,.int z]) (.int (aQ (aL (a:Int) 960) 3))=some (.int ([x,y,z].getD (a / 960 % 3) 9:Nat)):=by have e:aQ (aL (a:Int) 960) 3=((a / 960 % 3:Nat):Int):=wk a 960 3;rw [e];have RO:a / 960 % 3<3:=bR _ (by decide);generalize a / 960 % 3=k at RO;rcases (show k=0\/k=1\/k=2 by omega) with rfl | rfl | rfl<;>rfl
 generalize [x,y,z].getD (a / 960 % 3) 9=v at hx hs;have e1:ceCall P1 (m+244) "_law_led" [.QH (kt (qi t [x,y,z])),.lst [.int x,.int y,.int z],.int v] g=some (.bool true,g):=Hz (m:=m+84) (L:=2) (g:=g) (kv:=qi t [x,y,z]) (cs:=[x,y,z]) (x:=v) (.inl rfl) k2 k3 rfl hF.bnd (fun p hp=>G3 (k2 p hp) (.inl rfl)) TK hx (hF.led v hx);have Va:=hw w hm;have S6:w.2.take (j+1)++w.2.drop (j+1)=w.2:=kK _ _;have Tj:(w.2.take (j+1)).length=j+1:=by rw [gK,Va.1];omega
 have Vf:(w.2.drop (j+1)).length=3-(j+1):=by rw [ja,Va.1]
 obtain ⟨g',e2⟩:=CS (m:=m+73) (g:=g) (F:=w.2.take (j+1)) (R:=w.2.drop (j+1)) WW k2 (by omega) (by decide) (fun x hx=>Va.2 x (cZ hx)) (fun x hx=>Va.2 x (eZ hx)) (by intro h;rw [h] at Tj;simp at Tj) (by intro h;rw [h] at Vf;simp at Vf;omega) (hF.lay w hm j hj);rw [S6,Tj] at e2;simp only [aK,aM] at e2;refine ⟨g',?_⟩;clear hq k1 k2 k3 TK WW RH hx Va S6 Tj Vf hF hw hc hm;generalize qi t [x,y,z]=kv at *;unfold uI;symm
theorem Mu:∀ {m:Nat} {T:Qr} {a b c d:Nat} {t:BT} {cl:List Nat} {g:G} (ht:t∈SQ) (h:T.At "words" (.lst ((oQ t cl).map wN))) (h2:T.At "heaps" (.lst [.int a,.int b,.int c,.int d])) (h3:T.At "count" (.int 4)),∃ w∈oQ t cl,ceS P1 (m+250) lwC ⟨T,[],none⟩ (rN 19) g=some (.next,⟨("chosen",px w.2)::("turned",.int w.1)::T,[],none⟩,g):=by iterate 13
 have hq:=aj.mp HH t ht;simp only [ai,decide_eq_true_eq,beq_iff_eq] at hq;have hk:a / 120 % 8<(oQ t cl).length:=by rw [so,hq.1.1];exact bR _ (by decide)
 have hs:subD P1 (.lst ((oQ t cl).map wN)) (.int (aQ (aL (a:Int) 120) 8))=some (wN (oQ t cl)[a / 120 % 8]):=by have e:=wk a 120 8;have e:aQ (aL (a:Int) 120) 8=((a / 120 % 8:Nat):Int):=e;rw [e];exact pX (by simp [hk])
 refine ⟨_,b5 hk,?_⟩;generalize (oQ t cl)[a / 120 % 8]=w at hs;clear hk hq;have hr0:qk P1 lwC ⟨T,[],none⟩ (yo (rN 19))=none:=by refine yZ (xs:=(oQ t cl).map wN) ?_;rw [Nm];symm
 symm
theorem KU:∀ {m:Nat} {T:Qr} {a b c d:Nat} {g:G} (h2:T.At "heaps" (.lst [.int a,.int b,.int c,.int d])) (h3:T.At "count" (.int 4)),pa 20 m T g "cut" (.int ((a / 11520 % 3+1:Nat):Int)) g:=by iterate 9 have e:aQ (aL (a:Int) 11520) 3=((a / 11520 % 3:Nat):Int):=wk a 11520 3;refine zD (d:= .int (1+aQ (aL (a:Int) 11520) 3)) ?_ (by rw [e];congr 1;omega) rfl;symm
theorem LW:∀ {m x y z u:Nat} {T:Qr} {a b c d j:Nat} {t:BT} {w:Int×List Nat} {g:G} (ht:t∈SQ) (hc:∀ v∈[x,y,z,u],v∈codesN) (hF:Fin t [x,y,z,u]) (hw:∀ w∈oQ t [x,y,z,u],Lt 4 w.2) (hm:w∈oQ t [x,y,z,u]) (hj:j<3) (h1:T.At "sums" (.QH (kt (qi t [x,y,z,u])))) (h2:T.At "heaps" (.lst [.int a,.int b,.int c,.int d])) (h3:T.At "count" (.int 4)) (h4:T.At "codes" (.lst [.int x,.int y,.int z,.int u])) (h5:T.At "turned" (.int w.1)) (h6:T.At "chosen" (px w.2)) (h7:T.At "cut" (.int ((j+1:Nat):Int))),∃ g',uI 21 m T g (g++g'):=by iterate 27
 have hq:=aj.mp HH t ht;simp only [ai,decide_eq_true_eq,beq_iff_eq] at hq;obtain ⟨k1,k2,k3⟩:=AM hw;have TK:(qi t [x,y,z,u]).length<=8:=by have:=wn (oQ t [x,y,z,u]) [];rw [so,hq.1.1] at this;unfold qi;simp at this;omega
 have WW:w.1=1\/w.1= -1:=by have h:=aj.mp OI t ht;obtain ⟨v,hv,rfl⟩:=aH.mp hm;have:=aj.mp h v hv;simpa using this
 have RH:∀ k,k<4->[x,y,z,u].getD k 9∈[x,y,z,u]:=fun k hk=>by rw [bl,au (show k<[x,y,z,u].length from hk)];exact b5 _
 have hx:=RH (a / 960 % 4) (bR _ (by decide));have hs:subD P1 (.lst [.int x,.int y,.int z,.int u]) (.int (aQ (aL (a:Int) 960) 4))=some (.int ([x,y,z,u].getD (a / 960 % 4) 9:Nat)):=by have e:aQ (aL (a:Int) 960) 4=((a / 960 % 4:Nat):Int):=wk a 960 4;rw [e];have RO:a / 960 % 4<4:=bR _ (by decide);generalize a / 960 % 4=k at RO;rcases (show k=0\/k=1\/k=2\/k=3 by omega) with rfl | rfl | rfl | rfl<;>rfl
 generalize [x,y,z,u].getD (a / 960 % 4) 9=v at hx hs;have e1:ceCall P1 (m+244) "_law_led" [.QH (kt (qi t [x,y,z,u])),.lst [.int x,.int y,.int z,.int u],.int v] g=some (.bool true,g):=Hz (m:=m+84) (L:=3) (g:=g) (kv:=qi t [x,y,z,u]) (cs:=[x,y,z,u]) (x:=v) (.inr rfl) k2 k3 rfl hF.bnd (fun p hp=>G3 (k2 p hp) (.inr rfl)) TK hx (hF.led v hx);have Va:=hw w hm;have S6:w.2.take (j+1)++w.2.drop (j+1)=w.2:=kK _ _;have Tj:(w.2.take (j+1)).length=j+1:=by rw [gK,Va.1];omega
 have Vf:(w.2.drop (j+1)).length=4-(j+1):=by rw [ja,Va.1]
 obtain ⟨g',e2⟩:=CS (m:=m+73) (g:=g) (F:=w.2.take (j+1)) (R:=w.2.drop (j+1)) WW k2 (by omega) (by decide) (fun x hx=>Va.2 x (cZ hx)) (fun x hx=>Va.2 x (eZ hx)) (by intro h;rw [h] at Tj;simp at Tj) (by intro h;rw [h] at Vf;simp at Vf;omega) (hF.lay w hm j hj);rw [S6,Tj] at e2;simp only [aK,aM] at e2;refine ⟨g',?_⟩;clear hq k1 k2 k3 TK WW RH hx Va S6 Tj Vf hF hw hc hm;generalize qi t [x,y,z,u]=kv at *;unfold uI;symm
theorem MW:∀ {m:Nat} {T:Qr} {tx:List Nat} {rows:List (List D)} {g':G} (h1:T.At "lexer" (.loc 1)) (h2:T.At "text" (.str tx)),∃ g2,ceS P1 (m+250) lwC ⟨T,[],none⟩ (rN 22) (gD [101,110,100] (1+nl tx) [] rows++g')=some (.ret (.bool true),⟨T,[],none⟩,g2):=by iterate 7 have c:=Mn tx;refine ⟨gD [] (1+nl tx) [] rows++g',?_⟩;symm
noncomputable def xR (n:Nat) (T:Qr) (ss:List Stmt) (g:G):Prop:=∃ st g2,ceSs P1 n lwC ⟨T,[],none⟩ ss g=some (.ret (.bool true),st,g2)
theorem oW:∀ {i m:Nat} {T:Qr} {g g':G} {x:Str} {d:D} {ss:List Stmt} (h:pa i m T g x d g') (h2:xR (m+250) ((x,d)::T) ss g'),xR (m+251) T (rN i::ss) g:=by iterate 10 obtain ⟨st,g2,h2⟩:=h2;exact ⟨st,g2,ss_step h h2⟩
theorem wE:∀ {i m:Nat} {T:Qr} {g g':G} {ss:List Stmt} (h:uI i m T g g') (h2:xR (m+250) T ss g'),xR (m+251) T (rN i::ss) g:=by iterate 8 obtain ⟨st,g2,h2⟩:=h2;exact ⟨st,g2,ss_step h h2⟩
theorem Gn:∀ {i m:Nat} {T T':Qr} {g g':G} {ss:List Stmt} (h:ceS P1 (m+250) lwC ⟨T,[],none⟩ (rN i) g=some (.next,⟨T',[],none⟩,g')) (h2:xR (m+250) T' ss g'),xR (m+251) T (rN i::ss) g:=by iterate 9 obtain ⟨st,g2,h2⟩:=h2;exact ⟨st,g2,ss_step h h2⟩
theorem Dj:fb P1 "law" =[rN 0,rN 1,rN 2,rN 3,rN 4,rN 5,rN 6,rN 7,rN 8,rN 9,rN 10,rN 11,rN 12,rN 13,rN 14,rN 15,rN 16,rN 17,rN 18,rN 19,rN 20,rN 21,rN 22]:=by iterate 0 rfl'
theorem Kz:∀ {t:BT} {lf:Nat->List Un} (ahg:∀ i,9∉gl (lf i)/\13∉gl (lf i)),9∉gl (t.un lf)/\13∉gl (t.un lf):=by iterate 3
 induction t with
 | leaf i=>
  have e:BT.un (.leaf i) lf=lf i:=by (dsimp only [BT.un,BT.row];simp)
  rw [e];exact ahg i
 | node l r hl hr=>rw [CF];simp only [qQ,bF,not_or];refine ⟨⟨by decide,hl.1,by decide,hr.1,by decide⟩,⟨by decide,hl.2,by decide,hr.2,by decide⟩⟩
theorem PQ:∀ (lf:Nat->List Un),∀ t∈SR,∃ r,gl (t.un lf)=40::r:=by iterate 1 exact (t5 ⟨⟨_,rfl⟩,⟨_,rfl⟩⟩)
theorem NS:∀ {m:Nat} {zs:List Int} (hl:zs.length<=63) (hp:zs.length / 2 % 2=0),xR (m+273) [("script",.lst (zs.map D.int))] (fb P1 "law") []:=by iterate 4
 rw [Dj];obtain ⟨a,b,c,d,h0,ha⟩:=PF (m:=m+22) (T:=[("script",.lst (zs.map D.int))]) (g:=[]) rfl hl;refine oW h0 ?_;have h1:=fun h=>PD (m:=m+21) (T:=[("heaps",.lst [.int a,.int b,.int c,.int d]),("script",.lst (zs.map D.int))]) (zs:=zs) (g:=[]) h;rw [hp] at h1;have h1:=h1 rfl;refine oW (d:= .int 3) h1 ?_;obtain ⟨p,q,r,s,h2,Wn,hq1,ZF,VE⟩:=Py (m:=m+20) (T:=[("count",.int 3),("heaps",.lst [.int a,.int b,.int c,.int d]),("script",.lst (zs.map D.int))]) (g:=[]) rfl;refine oW h2 ?_;obtain ⟨x,y,z,h3,hx,hy,hz⟩:=M0 (m:=m+19) (T:=[("letters",.lst [.int p,.int q,.int r,.int s]),("count",.int 3),("heaps",.lst [.int a,.int b,.int c,.int d]),("script",.lst (zs.map D.int))]) (g:=[]) rfl rfl rfl Wn hq1 ZF VE;refine oW h3 ?_;have hc:∀ v∈[x,y,z],v∈codesN:=by simp only [aq,aO,or_false];rintro v (rfl | rfl | rfl)<;>assumption
 refine oW (m:=m+18) (MY rfl rfl) ?_;have ht:qU false a∈SR:=by
  rcases yX false a with h | h
  ·exact h.2
  ·exact absurd h.1 (by decide)
 generalize qU false a=t at ht;have ahg:=GB d hc;have Us:=A3 ahg t;have hq:=aj.mp FE t ht;simp only [ai,decide_eq_true_eq,beq_iff_eq] at hq;obtain ⟨⟨q1,q2⟩,q3⟩:=hq;obtain ⟨w',Yg⟩:=PQ (wY d [x,y,z]) t ht;have WN:=Kz (t:=t) (GR d hc);have WV:=fun w hw=>aj.mp (aj.mp OQ t ht) w hw;have Vl:∀ w∈t.words,w.2.length=3/\∀ i∈w.2,i<[x,y,z].length:=fun w hw=>by have:=WV w hw;simp only [ai,beq_iff_eq,aj,decide_eq_true_eq] at this;exact this
 have Xv:=Kr hc Vl;have Ud:Fin t [x,y,z]:=G0 hc (fun w hw=>(Vl w hw).2) (aj.mp (aj.mp OZ t ht) _ (Pm fun v hv=>by have:=sD (hc v hv);omega));have Th:a / 10 % 3<3:=bR _ (by decide);refine oW (m:=m+17) (Nt rfl rfl hx hy hz) ?_;refine oW (m:=m+16) (Nk (lf:=wY d [x,y,z]) (cd:=rT [x,y,z]) ht rfl rfl) ?_;refine oW (m:=m+15) (Pv rfl) ?_;refine oW (m:=m+14) (PJ Th rfl rfl) ?_;refine oW (m:=m+13) (PC (by omega) Th rfl rfl rfl) ?_;refine oW (m:=m+12) (NL rfl) ?_;refine oW (m:=m+11) (Ov rfl (AQ Th Yg WN.1 WN.2)) ?_;refine oW (m:=m+10) (MT ahg q2 rfl) ?_;refine oW (m:=m+9) NU ?_;refine wE (m:=m+8) (LK ht ahg rfl rfl rfl rfl rfl rfl) ?_;refine wE (m:=m+7) (M3 (ahg 0) rfl) ?_;refine oW (m:=m+6) (Mf ht hc rfl rfl rfl) ?_;refine oW (m:=m+5) (NO (L:=3) (by decide) Xv (by omega) rfl) ?_;refine wE (m:=m+4) (LD ht Xv rfl rfl rfl rfl) ?_;have fin:=fun (T:Qr) (e1:T.At "words" (.lst ((oQ t [x,y,z]).map wN))) (e2:T.At "heaps" (.lst [.int a,.int b,.int c,.int d])) (e3:T.At "count" (.int 3)) (e4:T.At "sums" (.QH (kt (qi t [x,y,z])))) (e5:T.At "codes" (.lst [.int x,.int y,.int z])) (e6:T.At "lexer" (.loc 1)) (e7:T.At "text" (.str (pe (a / 10 % 3) (a / 30 % 4) (gl (t.un (wY d [x,y,z]))))))=>(show xR (m+254) T [rN 19,rN 20,rN 21,rN 22] (gD [101,110,100] (1+nl (pe (a / 10 % 3) (a / 30 % 4) (gl (t.un (wY d [x,y,z]))))) [] (t.Qz (rT [x,y,z]) 0)) from by obtain ⟨w,hwm,h19⟩:=Mh (m:=m+3) (g:=gD [101,110,100] (1+nl (pe (a / 10 % 3) (a / 30 % 4) (gl (t.un (wY d [x,y,z]))))) [] (t.Qz (rT [x,y,z]) 0)) ht e1 e2 e3;refine Gn (m:=m+3) h19 ?_;refine oW (m:=m+2) (K3 (a:=a) (b:=b) (c:=c) (d:=d) e2 e3) ?_;obtain ⟨g',h21⟩:=KW (m:=m+1) (T:=("cut",.int ((a / 11520 % 2+1:Nat):Int))::("chosen",px w.2)::("turned",.int w.1)::T) (j:=a / 11520 % 2) (g:=gD [101,110,100] (1+nl (pe (a / 10 % 3) (a / 30 % 4) (gl (t.un (wY d [x,y,z]))))) [] (t.Qz (rT [x,y,z]) 0)) ht hc Ud Xv hwm (bR _ (by decide)) e4 e2 e3 e5 rfl rfl rfl;refine wE (m:=m+1) h21 ?_;obtain ⟨g2,h22⟩:=MW (m:=m) (T:=("cut",.int ((a / 11520 % 2+1:Nat):Int))::("chosen",px w.2)::("turned",.int w.1)::T) (tx:=pe (a / 10 % 3) (a / 30 % 4) (gl (t.un (wY d [x,y,z])))) (rows:=t.Qz (rT [x,y,z]) 0) (g':=g') e6 e7;exact ⟨_,_,ss_step h22 rfl⟩)
 exact fin _ rfl rfl rfl rfl rfl rfl rfl
theorem Qb:∀ (lf:Nat->List Un),∀ t∈SQ,∃ r,gl (t.un lf)=40::r:=by iterate 1 exact (tP ⟨⟨_,rfl⟩,⟨_,rfl⟩,⟨_,rfl⟩,⟨_,rfl⟩,⟨_,rfl⟩⟩)
theorem M4:∀ {m:Nat} {zs:List Int} (hl:zs.length<=63) (hp:zs.length / 2 % 2=1),xR (m+273) [("script",.lst (zs.map D.int))] (fb P1 "law") []:=by iterate 4
 rw [Dj];obtain ⟨a,b,c,d,h0,ha⟩:=PF (m:=m+22) (T:=[("script",.lst (zs.map D.int))]) (g:=[]) rfl hl;refine oW h0 ?_;have h1:=fun h=>PD (m:=m+21) (T:=[("heaps",.lst [.int a,.int b,.int c,.int d]),("script",.lst (zs.map D.int))]) (zs:=zs) (g:=[]) h;rw [hp] at h1;have h1:=h1 rfl;refine oW (d:= .int 4) h1 ?_;obtain ⟨p,q,r,s,h2,Wn,hq1,ZF,VE⟩:=Py (m:=m+20) (T:=[("count",.int 4),("heaps",.lst [.int a,.int b,.int c,.int d]),("script",.lst (zs.map D.int))]) (g:=[]) rfl;refine oW h2 ?_;obtain ⟨x,y,z,u,h3,hx,hy,hz,hu⟩:=Of (m:=m+19) (T:=[("letters",.lst [.int p,.int q,.int r,.int s]),("count",.int 4),("heaps",.lst [.int a,.int b,.int c,.int d]),("script",.lst (zs.map D.int))]) (g:=[]) rfl rfl rfl Wn hq1 ZF VE;refine oW h3 ?_;have hc:∀ v∈[x,y,z,u],v∈codesN:=by simp only [aq,aO,or_false];rintro v (rfl | rfl | rfl | rfl)<;>assumption
 refine oW (m:=m+18) (Nv rfl rfl) ?_;have ht:qU true a∈SQ:=by
  rcases yX true a with h | h
  ·exact absurd h.1 (by decide)
  ·exact h.2
 generalize qU true a=t at ht;have ahg:=GB d hc;have Us:=A3 ahg t;have hq:=aj.mp HH t ht;simp only [ai,decide_eq_true_eq,beq_iff_eq] at hq;obtain ⟨⟨q1,q2⟩,q3⟩:=hq;obtain ⟨w',Yg⟩:=Qb (wY d [x,y,z,u]) t ht;have WN:=Kz (t:=t) (GR d hc);have WV:=fun w hw=>aj.mp (aj.mp ON t ht) w hw;have Vl:∀ w∈t.words,w.2.length=4/\∀ i∈w.2,i<[x,y,z,u].length:=fun w hw=>by have:=WV w hw;simp only [ai,beq_iff_eq,aj,decide_eq_true_eq] at this;exact this
 have Xv:=Kr hc Vl;have Ud:Fin t [x,y,z,u]:=G0 hc (fun w hw=>(Vl w hw).2) (aj.mp (aj.mp O8 t ht) _ (Pn fun v hv=>by have:=sD (hc v hv);omega));have Th:a / 10 % 3<3:=bR _ (by decide);refine oW (m:=m+17) (Nc rfl rfl hx hy hz hu) ?_;refine oW (m:=m+16) (M9 (lf:=wY d [x,y,z,u]) (cd:=rT [x,y,z,u]) ht rfl rfl) ?_;refine oW (m:=m+15) (Pv rfl) ?_;refine oW (m:=m+14) (PJ Th rfl rfl) ?_;refine oW (m:=m+13) (PC (by omega) Th rfl rfl rfl) ?_;refine oW (m:=m+12) (NL rfl) ?_;refine oW (m:=m+11) (Ov rfl (AQ Th Yg WN.1 WN.2)) ?_;refine oW (m:=m+10) (MT ahg q2 rfl) ?_;refine oW (m:=m+9) NU ?_;refine wE (m:=m+8) (L7 ht ahg rfl rfl rfl rfl rfl rfl) ?_;refine wE (m:=m+7) (M3 (ahg 0) rfl) ?_;refine oW (m:=m+6) (LG ht hc rfl rfl rfl) ?_;refine oW (m:=m+5) (NO (L:=4) (by decide) Xv (by omega) rfl) ?_;refine wE (m:=m+4) (Mr ht Xv rfl rfl rfl rfl) ?_;have fin:=fun (T:Qr) (e1:T.At "words" (.lst ((oQ t [x,y,z,u]).map wN))) (e2:T.At "heaps" (.lst [.int a,.int b,.int c,.int d])) (e3:T.At "count" (.int 4)) (e4:T.At "sums" (.QH (kt (qi t [x,y,z,u])))) (e5:T.At "codes" (.lst [.int x,.int y,.int z,.int u])) (e6:T.At "lexer" (.loc 1)) (e7:T.At "text" (.str (pe (a / 10 % 3) (a / 30 % 4) (gl (t.un (wY d [x,y,z,u]))))))=>(show xR (m+254) T [rN 19,rN 20,rN 21,rN 22] (gD [101,110,100] (1+nl (pe (a / 10 % 3) (a / 30 % 4) (gl (t.un (wY d [x,y,z,u]))))) [] (t.Qz (rT [x,y,z,u]) 0)) from by obtain ⟨w,hwm,h19⟩:=Mu (m:=m+3) (g:=gD [101,110,100] (1+nl (pe (a / 10 % 3) (a / 30 % 4) (gl (t.un (wY d [x,y,z,u]))))) [] (t.Qz (rT [x,y,z,u]) 0)) ht e1 e2 e3;refine Gn (m:=m+3) h19 ?_;refine oW (m:=m+2) (KU (a:=a) (b:=b) (c:=c) (d:=d) e2 e3) ?_;obtain ⟨g',h21⟩:=LW (m:=m+1) (T:=("cut",.int ((a / 11520 % 3+1:Nat):Int))::("chosen",px w.2)::("turned",.int w.1)::T) (j:=a / 11520 % 3) (g:=gD [101,110,100] (1+nl (pe (a / 10 % 3) (a / 30 % 4) (gl (t.un (wY d [x,y,z,u]))))) [] (t.Qz (rT [x,y,z,u]) 0)) ht hc Ud Xv hwm (bR _ (by decide)) e4 e2 e3 e5 rfl rfl rfl;refine wE (m:=m+1) h21 ?_;obtain ⟨g2,h22⟩:=MW (m:=m) (T:=("cut",.int ((a / 11520 % 3+1:Nat):Int))::("chosen",px w.2)::("turned",.int w.1)::T) (tx:=pe (a / 10 % 3) (a / 30 % 4) (gl (t.un (wY d [x,y,z,u])))) (rows:=t.Qz (rT [x,y,z,u]) 0) (g':=g') e6 e7;exact ⟨_,_,ss_step h22 rfl⟩)
 exact fin _ rfl rfl rfl rfl rfl rfl rfl
theorem Ep:∀ {m:Nat} {zs:List Int} (hl:zs.length<=63),xR (m+273) [("script",.lst (zs.map D.int))] (fb P1 "law") []:=by iterate 3
 rcases dU (zs.length / 2) with h | h
 ·exact NS hl h
 ·exact M4 hl h
end MP.Lake
set_option backward.match.sparseCases true
namespace MP.Lake
open PySem PyProof.Rows PySem.W
structure Ux (fd:eO):Prop where
 po:fd.params.posonlyargs=[]
 va:fd.params.vararg=none
 ko:fd.params.kwonlyargs=[]
 kw:fd.params.kwarg=none
 df:fd.defaults= .none
theorem JA:∀ (ns:List Str) (vs:List ag),db ns=true->vs.length=ns.length->(ns.filterMap fun n=>((ns.zip vs).lookup n).map (n,·))=ns.zip vs:=by iterate 0
 have key:∀ (ns:List Str) (vs:List ag) (L:List (Str×ag)),db ns=true->vs.length=ns.length->(∀ n v,(n,v)∈ns.zip vs->L.lookup n=some v)->(ns.filterMap fun n=>(L.lookup n).map (n,·))=ns.zip vs:=by
  intro ns;induction ns with
  | nil=>intro vs L _ _ _;rfl
  | cons m ns ih=>
   intro vs L hd h hL;cases vs with
   | nil=>simp at h
   | cons v vs=>
    (dsimp only [db] at hd;simp only [ai] at hd)
    rw [fH,fq,hL m v (by simp)];simp only [cY];rw [ih vs L hd.2 (by simpa using h) fun n w hw=>hL n w (by simp [hw])]
 intro ns vs hd h;refine key ns vs _ hd h ?_;clear key;induction ns generalizing vs with
 | nil=>intro n v hm;simp at hm
 | cons m ns ih=>
  cases vs with
  | nil=>simp at h
  | cons v vs=>
   (dsimp only [db] at hd;simp only [ai,bG,c7,decide_eq_false_iff_not] at hd)
   intro n w hm;rw [fH] at hm ⊢;rw [aY];rcases aq.mp hm with e | hm2
   ·cases e;simp
   ·have Rt:(n==m)=false:=by
     simp only [beq_eq_false_iff_ne];intro e;subst e;exact hd.1 (hE hm2).1
    rw [Rt];exact ih vs hd.2 (by simpa using h) n w hm2
theorem B9:∀ {ps:List Str} {vs:List ag} {x:Str},vs.length=ps.length->x∈ps->∃ v,(x,v)∈ps.zip vs:=by iterate 0
 intro ps;induction ps with
 | nil=>intro _ _ _ h;cases h
 | cons p ps Qo=>
  intro vs x h hx;cases vs with
  | nil=>simp at h
  | cons v vs=>
   rcases aq.mp hx with rfl | hx
   ·exact ⟨v,by simp⟩
   ·obtain ⟨w,hw⟩:=Qo (vs:=vs) (by simpa using h) hx;exact ⟨w,by simp [hw]⟩
theorem B4:∀ {fd:eO} {ps:List Str} {vs:List ag} (P:Ux fd) (hp:fd.params.args.map (·.arg)=ps) (hd:db ps=true) (h:vs.length=ps.length),iD fd ⟨vs,[]⟩=pure (ps.zip vs):=by iterate 7
 have hn:¬ (decide (vs.length > ps.length)&&true)=true:=by simp;omega
 have hz:=JA ps vs hd h;have hm:∀ k,¬ (!((ps.take k).filter fun n=>((ps.zip vs).lookup n).isNone).isEmpty)=true:=by
  intro k;simp only [bG,List.isEmpty_eq_false_iff,ne_eq,kH,gQ];intro x hx;obtain ⟨v,hv⟩:=B9 h (cZ hx);have:∀ {l:List (Str×ag)},(x,v)∈l->¬ (l.lookup x).isNone=true:=by intro l hl e;rw [dT,gA] at e;simpa using e _ hl
  exact this hv
 obtain ⟨q1,q2,q3,q4,q5⟩:=P;obtain ⟨b,sc,⟨po,as,va,ko,kd,kw,de⟩,df,a1,a2,a3,a4,a5,a6⟩:=fd;cases q1;cases q2;cases q3;cases q4;cases q5;cases hp;refine (if_neg hn).trans ?_;refine (if_neg (hm _)).trans ?_;have hzz:∀ (l:List Str) (k:Nat),l.zip (([]:List ag).drop k)=[]:=fun l k=>by rw [nu,List.zip_nil_right]
 have key:∀ {β H:Type} (l:List Str) (k:Nat) (i:β) (f:Str×ag->β->Sem (ForInStep β)) (g:β->Sem H) (r:Sem H),g i=r->(forIn (l.zip (([]:List ag).drop k)) i f >>=g)=r:=fun l k i f g r e=>by rw [hzz];exact e
 refine key _ _ _ _ _ _ ?_;exact congrArg (fun l=>(pure l:Sem (List (Str×ag)))) ((congrArg (fun l:List Str=>l.filterMap fun n=>(((_:List (Str×ag))).lookup n |>.map (n,·))) (aS _)).trans hz)
section
variable (K:Frag)
noncomputable def sd (a:Addr):Obj:=(K.lookup a).getD {cls:= .none,data:= .plain}
noncomputable def H3 (a:Addr):Array DictEntry:=match (sd K a).data with | .dict es _=>es | _=>#[]
noncomputable def No:ag->Bool | .str _ _=>true | _=>false
noncomputable def Hp:Data->Bool | .dict _ _=>true | _=>false
noncomputable def MK (a:Addr):Bool:=(K.lookup a).isSome&&Hp (sd K a).data&&(H3 K a).toList.all fun e=>No e.key
noncomputable def RL (a:Addr):Str->Option ag:=nsFind (H3 K a)
noncomputable def zv:Option ag->Option Addr | some (.ref a)=>some a | _=>none
noncomputable def LQ (a:Addr):Option eO:=match (sd K a).data with | .func fd=>some fd | _=>none
noncomputable def Ri:List Addr:=[51,58,172]
noncomputable def KN (fd:eO):Bool:=match fd.code with
| .ref c=>(K.lookup c).isSome&&!Ri.contains c&&(match (sd K c).data with
  | .fields vs=>(match (vs[1]? :Option ag) with
   | some (ix q _)=>q==fd.qualname
   | _=>false)
  | _=>false)
| _=>false
noncomputable def GH (fd:eO) (ps:List Str):Bool:=fd.params.posonlyargs.isEmpty&&fd.params.vararg.isNone&&fd.params.kwonlyargs.isEmpty&&fd.params.kwarg.isNone&&(match fd.defaults with | .none=>true | _=>false)&&(fd.params.args.map (·.arg))==ps
noncomputable def Pw (fd:eO) (ps:List Str):Bool:=fd.globals==bC&&fd.closure.isEmpty&&fd.builtins==bU&&KN K fd&&GH fd ps&&db ps
noncomputable def OD (v:Option ag) (ps:List Str):Bool:=match zv v with
| some a=>(K.lookup a).isSome&&!Ri.contains a&&(match LQ K a with | some fd=>Pw K fd ps | none=>false)&&(match (sd K a).cls with | .type c=>c=="function" | _=>false)
| none=>false
noncomputable def Jy (v:Option ag):Option (FuncBody×aX):=(zv v).bind fun a=>(LQ K a).map fun fd=>(fd.body,fd.scope)
end
noncomputable def cx (w:jl) (h:Heap) (os:kD):Cx:=⟨w,h,[⟨51,55,⟨75,4,84,28⟩,"_int2digits.<locals>.inner"⟩,⟨58,62,⟨90,4,95,55⟩,"_digits2int.<locals>.inner"⟩,⟨172,176,uG,"_law_lexer.<locals>.<lambda>"⟩],120,115,os⟩
section
variable {K:Frag} {w:jl} {h:Heap} {os:kD}
theorem H4:∀ {a:Addr} (e:(K.lookup a).isSome=true),K.lookup a=some (sd K a):=by iterate 2 unfold sd;cases q:K.lookup a with | none=>rw [q] at e;cases e | some o=>rfl
theorem wG:∀ {a:Addr} (KX:K.In h) (e:(K.lookup a).isSome=true) (ht:Ri.contains a=false),F0 (cx w h os) a=some (sd K a):=by iterate 4
 have hn:¬ a∈(cx w h os).T:=by intro hm;have:Ri.contains a=true:=kO.mpr hm;rw [ht] at this;cases this
 unfold F0;rw [if_neg hn];exact KX a _ (H4 e)
theorem vE:∀ {a:Addr} (KX:K.In h) (e:MK K a=true) (ht:Ri.contains a=false),Uj (F0 (cx w h os)) a (RL K a):=by iterate 4
 simp only [MK,ai] at e;obtain ⟨⟨e1,e2⟩,e3⟩:=e;have hf:=wG (w:=w) (os:=os) KX e1 ht;unfold RL;unfold H3 at e3 ⊢;cases hd:(sd K a).data<;>rw [hd] at e2<;>try cases e2
 rename_i es ep;rw [hd] at e3;refine ⟨_,es,ep,hf,hd,fun x hx=>?_,fun _=>rfl⟩;have:=aj.mp e3 x (kT.mpr hx);cases hk:x.key<;>rw [hk] at this<;>try cases this
 exact ⟨_,_,rfl⟩
theorem Kt:∀ {v:Option ag} {ps:List Str} {body:List Stmt} {sc:aX} (KX:K.In h) (e:OD K v ps=true) (hb:Jy K v=some (.stmts body,sc)),∃ a o fd,v=some (.ref a)/\F0 (cx w h os) a=some o/\o.cls= .type "function" /\LQ K a=some fd/\o.data= .func fd/\fd.body= .stmts body/\fd.scope=sc/\fd.globals=bC/\fd.closure=[]/\fd.builtins=bU/\QA (F0 (cx w h os)) fd.code fd.qualname/\
   ∀ vs:List ag,vs.length=ps.length->iD fd ⟨vs,[]⟩=pure (ps.zip vs):=by iterate 7
 unfold OD at e;unfold Jy at hb;cases hv:zv v with
 | none=>rw [hv] at e;cases e
 | some a=>
  rw [hv] at e hb;have ZD:v=some (.ref a):=by
   cases v with
   | none=>cases hv
   | some u=>cases u<;>first | (cases hv;rfl) | cases hv
  simp only [ai,bG] at e;obtain ⟨⟨⟨e1,e2⟩,e3⟩,e4⟩:=e;have hf:=wG (w:=w) (os:=os) KX e1 e2;rw [bz] at hb;cases hd:LQ K a with
  | none=>rw [hd] at hb;cases hb
  | some fd=>
   rw [hd] at hb e3;rw [cY,fi,cR] at hb;have ZR:(sd K a).data= .func fd:=by unfold LQ at hd;cases q:(sd K a).data<;>rw [q] at hd<;>first | (cases hd;rfl) | cases hd
   have hc:(sd K a).cls= .type "function" :=by
    revert e4;cases (sd K a).cls<;>intro e4<;>try cases e4
    rw [eq_of_beq e4]
   simp only [Pw,GH,ai] at e3;obtain ⟨⟨⟨⟨⟨g1,g2⟩,g3⟩,g4⟩,⟨⟨⟨⟨p1,p2⟩,p3⟩,p4⟩,p5⟩,p6⟩,g6⟩:=e3;have P:Ux fd:=⟨eR.mp p1,dT.mp p2,eR.mp p3,dT.mp p4,by revert p5;cases fd.defaults<;>intro p5<;>first | rfl | cases p5⟩
   refine ⟨a,_,fd,ZD,hf,hc,hd,ZR,hb.1,hb.2,eq_of_beq g1,eR.mp g2,eq_of_beq g3,?_,fun vs hl=>B4 P (eq_of_beq p6) g6 hl⟩;unfold KN at g4;cases RH:fd.code<;>rw [RH] at g4<;>try cases g4
   rename_i c;obtain ⟨c0,c3⟩:=bx.mp g4;obtain ⟨c1,c2⟩:=bx.mp c0;have XZ:=wG (w:=w) (os:=os) KX c1 (by rw [bG] at c2;exact c2);cases UQ:(sd K c).data<;>rw [UQ] at c3<;>try cases c3
   rename_i vs;cases hq:(vs[1]? :Option ag) with
   | none=>replace c3:(match (vs[1]? :Option ag) with | some (ix q _)=>q==fd.qualname | _=>false)=true:=c3;rw [hq] at c3;cases c3
   | some u=>
    replace c3:(match (vs[1]? :Option ag) with | some (ix q _)=>q==fd.qualname | _=>false)=true:=c3;rw [hq] at c3;cases u<;>try cases c3
    exact ⟨c,_,vs,_,rfl,XZ,UQ,by rw [hq,eq_of_beq c3]⟩
end
noncomputable def ym (b:List Stmt):List Str:=b.filterMap fun
| .FunctionDef y _ _ _ _ _ _ _ _ _=>some y
| _=>none
noncomputable def NT (p:bY):List Str:=p.main.body.filterMap fun st=>(Nb st).map (·.1)
theorem C5:∀ {b:List Stmt} {f:Str} {fn:Fn} (h:vZ b f=some fn),f∈ym b:=by iterate 4
 obtain ⟨st,hm,hs⟩:=iK h;refine ey.mpr ⟨st,hm,?_⟩;revert hs;cases st<;>intro hs<;>first | (cases hs;done) | skip
 dsimp only at hs ⊢;split at hs
 ·rename_i q;rw [eq_of_beq q]
 ·cases hs
theorem CW:∀ {f:Str} {fn:Fn} (h:pd P0 f=some fn),f∈ym P0.main.body:=by iterate 3 exact (C5 h)
theorem DL:∀ {p:bY} {x:Str} {i:Int} (h:tI p x=some i),x∈NT p:=by iterate 4
 unfold tI at h;cases e:wg p x with
 | none=>rw [e] at h;cases h
 | some v=>
  obtain ⟨st,hm,hs⟩:=iK e;refine ey.mpr ⟨st,hm,?_⟩;obtain ⟨q,h1,h2⟩:=bi hs;rw [h1];split at h2
  ·rename_i k;exact congrArg some (eq_of_beq k)
  ·cases h2
noncomputable def LR:ag->Option (List Nat)
| .str s _=>some s.cps.toList
| _=>none
noncomputable def LA:ag->Option Int
| .int i _=>some i
| _=>none
noncomputable def OT:ag->Str
| .str s _=>s
| _=>⟨#[]⟩
noncomputable def TR (o:Option Int) (f:Option DictEntry):Prop:=match o with
| none=>f=none
| some i=>∃ e t,f=some e/\e.val= .int i t
theorem G1:∀ (l:List DictEntry) (T:List (List Nat×Int)),(l.map fun e=>(LR e.key,LA e.val))=(T.map fun p=>(some p.1,some p.2))->∀ x:List Nat,TR (T.lookup x) (l.find? fun e=>j4 ⟨x.toArray⟩ e.key):=by iterate 0
 intro l;induction l with
 | nil=>intro T h x;cases T with | nil=>exact rfl | cons _ _=>simp at h
 | cons e l Qo=>
  intro T h x;cases T with
  | nil=>simp at h
  | cons p T=>
   simp only [aB,gy,cR] at h;obtain ⟨⟨h1,h2⟩,h3⟩:=h;have ih:=Qo T h3 x;obtain ⟨k,i⟩:=p;have hk:∃ t,e.key= .str ⟨k.toArray⟩ t:=by cases q:e.key<;>rw [q] at h1<;>first | cases h1;done | exact ⟨_,by rw [<-(show _=k from bh h1)]⟩
   obtain ⟨t,hk⟩:=hk;have hv:∃ t,e.val= .int i t:=by cases q:e.val<;>rw [q] at h2<;>first | cases h2;done | exact ⟨_,by rw [<-(show _=i from bh h2)]⟩
   obtain ⟨tv,hv⟩:=hv;rw [aY,List.find?_cons,hk];have e1:j4 ⟨x.toArray⟩ (.str ⟨k.toArray⟩ t)=(x==k):=by show ((⟨k.toArray⟩:Str)==⟨x.toArray⟩)=(x==k);rw [c8];simp only [beq_iff_eq,Str.mk.injEq];exact ⟨fun q=>by rw [<-lr (as:=x),<-q],fun q=>by rw [q]⟩
   rw [e1];cases hx:x==k with | true=>exact ⟨e,tv,rfl,hv⟩ | false=>exact ih
structure Ck (K:Frag) (w:jl):Prop where
 n0:MK K 0=true
 n2:MK K 2=true
 n3:MK K 3=true
 nc:MK K 114=true
 sys:(K.lookup 1).isSome=true
 lim:(RL K 2 "sys.recursionlimit").isNone=true
 top:((NT P0).all fun x=>match tI P0 x with
  | some i=>(match RL K 3 x with
   | some (.int j _)=>i==j
   | _=>false)
  | none=>true)=true
 tab:RL K 3 "EXACT_TOKEN_TYPES" =some (.ref 120)
 cls:RL K 3 "_netrclex" =some (.ref 115)
 m1:(("int" :Str)::"reversed" ::(QR++rz)).map (RL K 3)=(("int" :Str)::"reversed" ::(QR++rz)).map fun _=>none
 b1:(("int" :Str)::"reversed" ::rz).map (RL K 0)=(("int" :Str)::"reversed" ::rz).map fun x=>some (.type x.toString)
 b2:QR.map (RL K 0)=QR.map fun x=>some (.builtin x.toString)
 fs:((ym P0.main.body).all fun f=>match pd P0 f with
  | some fn=>OD K (RL K 3 f) fn.params
  | none=>true)=true
 fe:((ym P0.main.body).map fun f=>Jy K (RL K 3 f))=(ym P0.main.body).map fun f=>(pd P0 f).map fun fn=>(.stmts fn.body,fn.scope)
 ms:((ym (pC P0 "_netrclex")).all fun f=>match vZ (pC P0 "_netrclex") f with
  | some fn=>OD K (RL K 114 f) fn.params
  | none=>true)=true
 me:((ym (pC P0 "_netrclex")).map fun f=>Jy K (RL K 114 f))=(ym (pC P0 "_netrclex")).map fun f=>(vZ (pC P0 "_netrclex") f).map fun fn=>(.stmts fn.body,fn.scope)
 co:(K.lookup 115).isSome=true/\∃ nm q bs sn sub col dd k0 k1 k2 k3 k5,sd K 115=hZ nm q 115 114 bs [.type "object"] true sn sub false col dd k0 k1 k2 k3 k5 "object.__new__"
 cn:Rk.map (RL K 114)=Rk.map fun _=>none
 to:(K.lookup 120).isSome=true/\(sd K 120).ExactDict/\Hp (sd K 120).data=true
 tk:((H3 K 120).toList.map fun e=>(LR e.key,LA e.val))=(qm P0).map fun p=>(some p.1,some p.2)
 th:((H3 K 120).toList.map fun e=>e.hash)=(H3 K 120).toList.map fun e=>hashStr w (OT e.key)
section
variable {K:Frag} {w:jl} {h:Heap} {os:kD}
theorem sm:∀ {α β:Type} {f g:α->β},∀ {l:List α},l.map f=l.map g->∀ x∈l,f x=g x:=by iterate 4 exact (fun h x hx=>List.map_inj_left.mp h x hx)
theorem Hj:((ym P0.main.body).all fun f=>match pd P0 f with
  | some fn=>fn.scope.isGenerator ||wu fn
  | none=>true)=true:=by decide+kernel
theorem Hm:((ym (pC P0 "_netrclex")).all fun f=>match vZ (pC P0 "_netrclex") f with
  | some fn=>wu fn
  | none=>true)=true:=by decide+kernel
theorem Id:∀ (KX:K.In h) (C:Ck K w),∀ h':Heap,(∀ a o,F0 (cx w h os) a=some o->h'.get? a=some o)->xE (cx w h os) h':=by iterate 2
 intro h' hl;refine ⟨rfl,fun k=>findBy (gu P0 w).is (H3 K 120) k,?_,fun x=>?_⟩
 ·have hf:=wG (w:=w) (os:=os) KX C.to.1 (by decide);have h3:=C.to.2.2;have VD:=C.th;have htk:=C.tk;unfold H3 at VD htk ⊢;cases hd:(sd K 120).data<;>rw [hd] at h3<;>try cases h3
  rename_i es ep;rw [hd] at VD htk;refine ⟨_,es,ep,hl _ _ hf,C.to.2.1,hd,fun e he=>?_,fun _=>rfl⟩;have he:=kT.mpr he;have h1:=sm VD e he;have h2:(LR e.key,LA e.val)∈(qm P0).map fun p=>(some p.1,some p.2):=by rw [<-htk];exact aH.mpr ⟨e,he,rfl⟩
  obtain ⟨p,_,hp⟩:=aH.mp h2;simp only [cR] at hp;have hk:∃ s t,e.key= .str s t:=by have Wn:=hp.1;cases q:e.key<;>rw [q] at Wn<;>first | cases Wn;done | exact ⟨_,_,rfl⟩
  obtain ⟨s,t,hk⟩:=hk;refine ⟨s,by rw [hk];show (s==s)=true;simp,?_⟩;rw [h1,hk];rfl
 ·have:=G1 _ _ C.tk x;have e:∀ k,findBy (gu P0 w).is (H3 K 120) k=((H3 K 120).toList.find? fun e=>j4 k e.key).map (·.val):=fun k=>by
   unfold findBy;rw [<-Array.find?_toList];rfl
  dsimp only;rw [e];cases q:(qm P0).lookup x with | none=>rw [q] at this;replace this:_=none:=this;dsimp only;rw [this];rfl | some i=>rw [q] at this;obtain ⟨e,t,h1,h2⟩:=this;exact ⟨t,by rw [h1,cY,h2]⟩
theorem Du:∀ {f:Str} {fn:Fn} (KX:K.In h) (C:Ck K w) (e:pd P0 f=some fn),∃ a o fd,RL K 3 f=some (.ref a)/\F0 (cx w h os) a=some o/\o.data= .func fd/\LQ K a=some fd/\fd.body= .stmts fn.body/\fd.scope=fn.scope/\fd.globals=bC/\fd.closure=[]/\fd.builtins=bU/\QA (F0 (cx w h os)) fd.code fd.qualname/\
  ∀ vs:List ag,vs.length=fn.params.length->iD fd ⟨vs,[]⟩=pure (fn.params.zip vs):=by iterate 5
 have hm:=CW e;have h1:=aj.mp C.fs f hm;rw [e] at h1;have h2:=sm C.fe f hm;rw [e] at h2;obtain ⟨a,o,fd,g1,g2,_,g4,g5,g6⟩:=Kt (w:=w) (os:=os) KX h1 h2;exact ⟨a,o,fd,g1,g2,g5,g4,g6⟩
theorem zy:∀ {f:Str} {fn:Fn} {a:Addr} (KX:K.In h) (C:Ck K w) (e:pd P0 f=some fn) (ha:RL K 3 f=some (.ref a)) (hg:fn.scope.isGenerator=false),FnAt (cx w h os) (F0 (cx w h os)) a fn:=by iterate 8 obtain ⟨a',o,fd,g1,g2,g3,_,g5⟩:=Du (os:=os) KX C e;rw [ha] at g1;cases g1;refine ⟨⟨o,fd,g2,g3,g5⟩,?_⟩;have:=aj.mp Hj f (CW e);rw [e] at this;simpa [hg] using this
theorem Kk:∀ (KX:K.In h) (C:Ck K w),Fx (cx w h os):=by iterate 2
 exact {
  Uy:=Id KX C
  WG:=⟨_,wG KX C.sys (by decide)⟩
  SI:=⟨_,vE KX C.n2 (by decide),dT.mp C.lim⟩
  glob:=by
   have hm:=fun x hx=>sm C.m1 x hx;refine ⟨RL K 3,RL K 0,vE KX C.n3 (by decide),vE KX C.n0 (by decide),fun x i e=>?_,C.tab,hm "int" (by simp),sm C.b1 "int" (by simp),fun x hx=>⟨hm x (by simp [hx]),sm C.b2 x hx⟩,fun x hx=>⟨hm x (by simp [hx]),sm C.b1 x (by simp [hx])⟩,hm "reversed" (by simp),sm C.b1 "reversed" (by simp),C.cls,fun f fn e=>?_⟩
   ·have:=aj.mp C.top x (DL e);rw [e] at this;dsimp only at this;cases q:RL K 3 x with
    | none=>rw [q] at this;cases this
    | some v=>
     rw [q] at this;cases v<;>try cases this
     exact ⟨_,by rw [eq_of_beq this]⟩
   ·obtain ⟨a,_,_,g1,_⟩:=Du (os:=os) KX C e;exact ⟨a,g1,fun hg=>zy KX C e g1 hg⟩}
theorem NE:∀ (KX:K.In h) (C:Ck K w),Kl (cx w h os):=by iterate 2
 exact {
  ex:=by
   refine ⟨114,RL K 114,fun h' hl=>⟨?_,(vE (w:=w) (os:=os) KX C.nc (by decide)).ns hl⟩,fun x hx=>sm C.cn x hx,fun m fn e=>?_⟩
   ·obtain ⟨c1,nm,q,bs,sn,sub,col,dd,k0,k1,k2,k3,k5,c2⟩:=C.co;have hf:=wG (w:=w) (os:=os) KX c1 (by decide);exact ⟨nm,q,bs,sn,sub,col,dd,k0,k1,k2,k3,k5,by have:=hl _ _ hf;rw [c2] at this;exact this⟩
   ·have hm:=C5 e;have h1:=aj.mp C.ms m hm;rw [e] at h1;have h2:=sm C.me m hm;rw [e] at h2;obtain ⟨a,o,fd,g1,g2,g3,_,g5,g6⟩:=Kt (w:=w) (os:=os) KX h1 h2;have h3:=aj.mp Hm m hm;rw [e] at h3;exact ⟨a,o,g1,⟨⟨o,fd,g2,g5,g6⟩,h3⟩,g2,g3⟩}
end
noncomputable def MJ (K:Frag) (c P:Addr):Bool:=(K.lookup c).isSome&&!Ri.contains c&&c !=P&&(match (sd K c).cls with | .type t=>t=="code" | _=>false)&&(match (sd K c).data with
| .fields vs=>(match (vs[11]? :Option ag) with | some (.ref p)=>p==P | _=>false)&&(match vs.getD 18 .none with | .str _ _=>true | _=>false)&&(match vs.getD 7 .none with | .int _ _=>true | _=>false)&&(match vs.getD 9 .none with | .bool _=>true | _=>false)&&(match vs.getD 10 .none with | .int _ _=>true | _=>false)
| _=>false)
theorem IF:∀ {v:ag} (h:(match v with | .str _ _=>true | _=>false)=true),∃ s t,v= .str s t:=by iterate 2 cases v<;>first | cases h;done | exact ⟨_,_,rfl⟩
theorem C3:∀ {v:ag} (h:(match v with | .int _ _=>true | _=>false)=true),∃ s t,v= .int s t:=by iterate 2 cases v<;>first | cases h;done | exact ⟨_,_,rfl⟩
theorem GX:∀ {v:ag} (h:(match v with | .bool _=>true | _=>false)=true),∃ s,v= .bool s:=by iterate 2 cases v<;>first | cases h;done | exact ⟨_,rfl⟩
noncomputable def O1 (K:Frag):Bool:=match zv (RL K 3 "__builtins__") with
| some bm=>bm !=bU&&bm !=bC&&!Ri.contains bm&&(K.lookup bm).isSome&&(match (sd K bm).cls with | .type t=>t=="module" | _=>false)&&(sd K bm).dict==some bU&&(match (sd K bm).data with | .plain=>true | _=>false)
| none=>false
noncomputable def MG (K:Frag) (f:Str) (c:Addr):Bool:=match zv (RL K 3 f) with
| some a=>(match LQ K a with
  | some fd=>(match fd.code with | .ref q=>q==c | _=>false)&&fd.qualname==f
  | none=>false)
| none=>false
structure Ck2 (K:Frag) (w:jl):Prop extends Ck K w where
 h1:MJ K 55 51=true
 h2:MJ K 62 58=true
 h3:MJ K 176 172=true
 bm:O1 K=true
 t1:MG K "_int2digits" 55=true
 t2:MG K "_digits2int" 62=true
 t3:MG K "_law_lexer" 176=true
section
variable {K:Frag} {w:jl} {h:Heap} {os:kD}
theorem Nq:∀ {v:Option ag} {a:Addr} (hv:zv v=some a),v=some (.ref a):=by iterate 3
 cases v with
 | none=>cases hv
 | some u=>cases u<;>first | (cases hv;rfl) | cases hv
theorem Do:∀ {c P:Addr} (KX:K.In h) (e:MJ K c P=true),∀ h',H0 (cx w h os) h'->lT h' c P:=by iterate 4
 intro h' hl;unfold MJ at e;simp -iota only [ai,bG] at e;obtain ⟨⟨⟨⟨e1,e2⟩,e3⟩,e4⟩,e5⟩:=e;have hf:=hl _ _ (wG (w:=w) (os:=os) KX e1 e2);cases UQ:(sd K c).data<;>rw [UQ] at e5<;>try cases e5
 rename_i vs;dsimp only at e5;simp -iota only [ai] at e5;obtain ⟨⟨⟨⟨a1,a2⟩,a3⟩,a4⟩,a5⟩:=e5;have hp:(vs[11]? :Option ag)=some (.ref P):=by
  cases q:(vs[11]? :Option ag) with
  | none=>rw [q] at a1;cases a1
  | some u=>
   rw [q] at a1;cases u<;>try cases a1
   rw [eq_of_beq a1]
 obtain ⟨f1,t1,b1⟩:=IF a2;obtain ⟨f2,t2,b2⟩:=C3 a3;obtain ⟨f3,b3⟩:=GX a4;obtain ⟨f4,t4,b4⟩:=C3 a5;have hc:(sd K c).cls= .type "code" :=by
  revert e4;cases (sd K c).cls<;>intro e4<;>try cases e4
  rw [eq_of_beq e4]
 refine ⟨_,vs,f1,t1,f2,t2,f3,f4,t4,hf,hc,UQ,hp,?_,b1,b2,b3,b4,by simpa using e3⟩;rw [Array.getD_eq_getD_getElem?,hp];rfl
theorem Nn:∀ {P:Addr} (KX:K.In h) (e:O1 K=true) (hP:Ri.contains P=true),∀ h',H0 (cx w h os) h'->h'.BuiltinsAt (RL K 3) P:=by iterate 4
 intro h' hl;unfold O1 at e;cases hb:zv (RL K 3 "__builtins__") with
 | none=>rw [hb] at e;cases e
 | some bm=>
  rw [hb] at e;dsimp only at e;simp -iota only [ai,bG] at e;obtain ⟨⟨⟨⟨⟨⟨e1,e2⟩,e3⟩,e4⟩,e5⟩,e6⟩,e7⟩:=e;have hf:=hl _ _ (wG (w:=w) (os:=os) KX e4 e3);have hc:(sd K bm).cls= .type "module" :=by
   revert e5;cases (sd K bm).cls<;>intro e5<;>try cases e5
   rw [eq_of_beq e5]
  have hd:(sd K bm).data= .plain:=by revert e7;cases (sd K bm).data<;>intro e7<;>first | rfl | cases e7
  exact ⟨bm,_,Nq hb,by simpa using e1,by simpa using e2,(fun q=>by rw [q,hP] at e3;cases e3),hf,hc,eq_of_beq e6,hd⟩
theorem NM:∀ (KX:K.In h) (C:Ck2 K w),Tx (cx w h os):=by iterate 2
 exact {
  inj:=fun T hT T' V4 e=>by simp only [cx,aq,aO,or_false] at hT V4;rcases hT with rfl | rfl | rfl<;>rcases V4 with rfl | rfl | rfl<;>first | rfl | cases e
  hd:=fun T hT h' hl=>by
   simp only [cx,aq,aO,or_false] at hT;rcases hT with rfl | rfl | rfl
   ·exact Do KX C.h1 h' hl
   ·exact Do KX C.h2 h' hl
   ·exact Do KX C.h3 h' hl
  bi:=⟨RL K 3,vE KX C.n3 (by decide),fun T hT h' hl=>by simp only [cx,aq,aO,or_false] at hT;rcases hT with rfl | rfl | rfl<;>exact Nn KX C.bm (by decide) h' hl⟩
  mn:=fun T hT=>by simp only [cx,aq,aO,or_false] at hT;rcases hT with rfl | rfl | rfl<;>decide}
theorem FZ:∀ {f q:Str} {pos:Pos} {a c:Addr} {fn:Fn} (KX:K.In h) (C:Ck K w) (hT:(⟨a,c,pos,q⟩:Tr)∈(cx w h os).tabs) (ht:MG K f c=true) (e:pd P0 f=some fn) (hg:fn.scope.isGenerator=false),xQ (cx w h os) f q pos:=by iterate 12
 obtain ⟨a',o,fd,g1,g2,g3,g4,g5⟩:=Du (os:=os) KX C e;refine ⟨_,hT,rfl,rfl,RL K 3,RL K 0,a',o,fd,vE KX C.n3 (by decide),vE KX C.n0 (by decide),g1,g2,g3,?_,?_,fun X3 e'=>?_⟩
 ·unfold MG at ht;rw [g1] at ht;simp only [zv,g4,ai] at ht;have h1:=ht.1;split at h1
  ·rename_i p hp;rw [hp,eq_of_beq h1]
  ·cases h1
 ·unfold MG at ht;rw [g1] at ht;simp only [zv,g4,ai] at ht;exact eq_of_beq ht.2
 ·rw [e] at e';cases e';exact zy KX C e g1 hg
theorem Op:∀ (KX:K.In h) (C:Ck2 K w),Mx (cx w h os):=by iterate 2
 exact {
  fx:=Kk KX C.toCk
  kl:=NE KX C.toCk
  tx:=NM KX C
  gf:=by obtain ⟨a,o,fd,g1,g2,g3,_,g5,g6,g7,g8,g9,g10,ZZ⟩:=Du (os:=os) KX C.toCk FF;exact ⟨RL K 3,RL K 0,a,o,fd,vE KX C.n3 (by decide),vE KX C.n0 (by decide),g1,g2,g3,g5,g6,g7,g8,g9,g10,fun v=>ZZ [v] rfl⟩
  tl:=FZ KX C.toCk (a:=172) (c:=176) (by simp [cx]) C.t3 (fn:=(pd P0 "_law_lexer").getD ⟨[],.mk .function [] false false [],[]⟩) (by rfl') (by rfl')
  td:=FZ KX C.toCk (a:=58) (c:=62) (by simp [cx]) C.t2 (fn:=(pd P0 "_digits2int").getD ⟨[],.mk .function [] false false [],[]⟩) (by rfl') (by rfl')
  ti:=FZ KX C.toCk (a:=51) (c:=55) (by simp [cx]) C.t1 (fn:=(pd P0 "_int2digits").getD ⟨[],.mk .function [] false false [],[]⟩) (by rfl') (by rfl')}
end
structure Ck3 (K:Frag) (w:jl):Prop extends Ck2 K w where
 t0:(Ri.map fun a=>K.lookup a)=Ri.map fun _=>some (ud #[])
 law:∃ fa,RL K 3 "law" =some (.ref fa)
noncomputable def SJ:Fn:=⟨["script"],fsc P0 "law",fb P0 "law"⟩
section
variable {K:Frag} {w:jl}
theorem Cq:∀ {h:Heap} {a:Addr} (KX:K.In h) (C:Ck3 K w) (ha:a∈Ri),h.get? a=some (ud #[]):=by iterate 5 exact (KX a _ (sm C.t0 a ha))
theorem Lb:∀ {s:ah} (KX:K.In s.heap) (C:Ck3 K w) (hg:s.gens=#[]),Qs (cx w s.heap s.os) ⟨F0 (cx w s.heap s.os),[],[],[]⟩ s:=by iterate 4
 exact {
  sub:=fun a o e=>by
   dsimp only at e;unfold F0 at e;split at e
   ·cases e
   ·exact e
  base:=fun a o hn e=>by show F0 _ a=_;unfold F0;rw [if_neg hn];exact e
  RD:=fun a ha=>by show F0 _ a=_;unfold F0;rw [if_pos ha]
  low:=fun a o e=>⟨o,e⟩
  tab:=fun T hT=> .inl (by refine Cq KX C ?_;simp only [cx,aq,aO,or_false] at hT;rcases hT with rfl | rfl | rfl<;>decide)
  Rg:=rfl
  Rm:=rfl
  obj:=fun i mo a fp e _ _=>by simp at e
  nodup:=by simp
  RI:=fun a ha=>by simp at ha
  bare:= .of_eq hg
  os:=rfl}
theorem IW:∀ {J:Cx} {F:PM} {as:List Addr} {vs:List ag} {zs:List Int} (h:IntsAre vs zs),Qt J F as (zs.map .int) vs:=by iterate 6 induction h with | nil=>exact (rfl:([]:List ag)=[]) | cons n t _ ih=>rw [aB];dsimp only [Qt];exact ⟨_,_,rfl,by dsimp only [Rd];exact ⟨t,rfl⟩,ih⟩
theorem Lp:pd P0 "law" =some SJ:=by iterate 0 rfl'
theorem Il:∀ {s s':ah} (KX:K.In s.heap) (C:Ck3 K w) {W':Wd} (t:Qp (cx w s.heap s.os) [] ⟨F0 (cx w s.heap s.os),[],[],[]⟩ s W' s'),OldK s.heap s'.heap:=by iterate 6
 exact {
  old:=fun b o e=>by
   by_cases hb:b∈Ri
   ·have h0:=Cq KX C hb;rw [h0] at e;cases e;have Rb:isCodeTable s.heap b:=by
     have hh:∃ c,MJ K c b=true:=by
      simp only [Ri,aq,aO,or_false] at hb;rcases hb with rfl | rfl | rfl
      ·exact ⟨_,C.h1⟩
      ·exact ⟨_,C.h2⟩
      ·exact ⟨_,C.h3⟩
     obtain ⟨c,hc⟩:=hh;obtain ⟨o,vs,_,_,_,_,_,_,_,e1,e2,e3,e4,_⟩:=Do (w:=w) (os:=s.os) KX hc s.heap (fun a o e=>by
      unfold F0 at e;split at e
      ·cases e
      ·exact e)
     exact ⟨c,o,vs,e1,e2,e3,e4⟩
    have hT:∃ T∈(cx w s.heap s.os).tabs,T.a=b:=by
     simp only [Ri,aq,aO,or_false] at hb;rcases hb with rfl | rfl | rfl
     ·exact ⟨_,.head _,rfl⟩
     ·exact ⟨_,.tail _ (.head _),rfl⟩
     ·exact ⟨_,.tail _ (.tail _ (.head _)),rfl⟩
    obtain ⟨T,hT,rfl⟩:=hT;rcases t.ok.tab T hT with h1 | ⟨c',oc,vs,tk,h1,_⟩
    ·exact .inl h1
    ·exact .inr (.inl ⟨Rb,rfl,_,_,rfl,h1⟩)
   ·exact .inl (t.keep b o hb (by simp) (by simp) e)
  there:=t.there}
theorem U6:∀ {s:ah} {a:Addr} {vs:List ag} {zs:List Int} {o:Obj} {nn:Nat} {n:Nat} {A:bf} {fa:Addr} (KX:K.In s.heap) (C:Ck3 K w) (hg:s.gens=#[]) (ho:s.heap.get? a=some o) (h1:o.cls= .type "list") (h2:o.dict=none) (h3:o.data= .seq vs.toArray nn) (hI:IntsAre vs zs) (hz:zs.length<=63) (hA:Qx (n+1) A) (Sr:∃ st g2,ceSs P0 n SJ.scope ⟨[("script",.lst (zs.map .int))],[],none⟩ SJ.body []=some (.ret (.bool true),st,g2)) (hf:RL K 3 "law" =some (.ref fa)),aD (aC P0 w) A (call (.ref fa) [.ref a]) (fun v s'=>v= .bool true/\OldK s.heap s'.heap/\s'.os=s.os/\ij s'.gens) (fun _ _=>False) s:=by iterate 21
 have hw:=Lb KX C hg;have QE:FnAt (cx w s.heap s.os) (F0 (cx w s.heap s.os)) fa SJ:=zy KX C.toCk2.toCk Lp hf (by rfl');obtain ⟨st,g2,Sr⟩:=Sr;have hnt:a∉(cx w s.heap s.os).T:=fun hm=>by have h0:=Cq KX C (a:=a) hm;rw [ho] at h0;cases h0;cases h1
 have hd:Qt (cx w s.heap s.os) (F0 (cx w s.heap s.os)) [] [.lst (zs.map .int)] [.ref a]:=by dsimp only [Qt];refine ⟨_,_,rfl,?_,rfl⟩;dsimp only [Rd];refine ⟨by rw [aG];unfold lim;omega,a,vs,rfl,⟨o,nn,?_,h1,h2,h3⟩,IW hI⟩;unfold F0;rw [if_neg hnt];exact ho
 refine sG (Kk KX C.toCk2.toCk) QE rfl (by have:=hA.2.1;omega) hd hw fun env Ql R=>?_;refine af (Ib (fl:= .next) (Op KX C.toCk2) (fn:=SJ) (ds:=[.lst (zs.map .int)]) Sr rfl R hA.deeper) (fun f s' z0=>?_) fun _ _ f=>f;obtain ⟨hf,W',t⟩:=z0;subst hf;exact ⟨rfl,Il KX C t,t.ok.os,t.ok.bare⟩
end
theorem WK:∀ {zs:List Int} (hz:zs.length<=63),∃ st g2,ceSs P0 273 SJ.scope ⟨[("script",.lst (zs.map .int))],[],none⟩ SJ.body []=some (.ret (.bool true),st,g2):=by iterate 2 exact (Ep (m:=0) hz)
theorem UJ:Qx (273+1) callerA:=by iterate 0 exact (⟨rfl,by decide,by decide⟩)
noncomputable def MI (o:Obj):mv:=match o.data with
| .cls c=>c
| _=>{name:=⟨#[]⟩,bases:=[],mro:=[],ns:=0}
noncomputable def NX (o:Obj) (i:Nat):Option ag:=o.slots.getD i none
theorem Zf:∀ {K:Frag} (e1:(K.lookup 115).isSome=true) (e:sd K 115=hZ (MI (sd K 115)).name (MI (sd K 115)).qualname 115 114 (MI (sd K 115)).bases [.type "object"] true (MI (sd K 115)).slotNames (MI (sd K 115)).subclasses false (MI (sd K 115)).collection (sd K 115).dict (NX (sd K 115) 0) (NX (sd K 115) 1) (NX (sd K 115) 2) (NX (sd K 115) 3) (NX (sd K 115) 5) "object.__new__"),(K.lookup 115).isSome=true/\∃ nm q bs sn sub col dd k0 k1 k2 k3 k5,sd K 115=hZ nm q 115 114 bs [.type "object"] true sn sub false col dd k0 k1 k2 k3 k5 "object.__new__" :=by iterate 3 exact (⟨e1,_,_,_,_,_,_,_,_,_,_,_,_,e⟩)
end MP.Lake
open PySem PySem.W PyProof.Rows
open PySem.W.X PySem.W.ZRun PySem.W
set_option maxRecDepth 100000 in
set_option maxHeartbeats 0 in
theorem PySem.Challenge.cw_uk0012_01_holds : PySem.Challenge.rw_uk0012_01.Holds := by
 run_tac Cz.b 0
 run_tac do
  let pre:=`PySem.Challenge.cw_uk0012_01_holds
  let mut m <-jw.get
  m:=m.insert ``PySem.Challenge.pw_uk0012_01 none
  for b in ["view","sts","heap","zo","tree","o"] do
   for i in [0:2000] do
    m:=m.insert (pre.str s!"{b}_{i}") none
  jw.set m
 w_on;o_law
 run_tac do
  let ty <-Lean.Meta.whnfR (<-Lean.instantiateMVars (<-Lean.Elab.Tactic.getMainTarget))
  let r <-if ty.isAppOfArity ``OpenRowC.Holds 1 then Lean.Meta.mkAppM ``RowC.toRowW #[<-Lean.Meta.mkAppM ``OpenRowC.toRowC #[ty.appArg!]] else Lean.Meta.mkAppM ``OpenRow.toRowW #[ty.appArg!]
  let (K,as) <-xMkFrag (<-progOf (<-Lean.Meta.whnfR (<-Lean.Meta.mkAppM ``RowW.prog #[r]))) (some (<-strSlow (<-Lean.Meta.mkAppM ``RowW.name #[r])).toString)
  let (k,a):=(<-Lean.Elab.Term.exprToSyntax K,<-Lean.Elab.Term.exprToSyntax as)
  Lean.logInfo m!"K {K}"
  zHead (<-`(fun s=>($a).map s.heap.get?)) (<-`(fun w=>($k w.params).map fun p=>some p.2))
 (case hw=>w_witness2);k_fill;intro w Qu Ql mg mb G y fa o pm cd doc dV kV ho hd RH hD UC hg args vals as L WZ aa5 hrd ZC hlo
 have KX:ot (PySem.Challenge.cw_uk0012_01_holds.heap_40 w.params) Ql.heap:=InK.keeps w _ _ (InK.of (K:=PySem.Challenge.cw_uk0012_01_holds.heap_40) (fun _=>rfl) w Qu y) (Laid.keeps L);refine Ground.open G ?_;intro T B D TE TW;wrow_args WZ aa5 hrd ZC hlo;x_fa T KX UC;all_lens;rename_i zs hs0 acU hL1 ZF VV as1 as2 ad vs as3 hLs ra w1 r0 hr2 ZT V2 hI hb;have hz:zs.length<=63:=by omega
 have Tu:=PySem.W.X.script_obj L hLs;have ck:MP.Lake.Ck (PySem.Challenge.cw_uk0012_01_holds.heap_40 w.params) w:={
  n0:=by rfl',n2:=by rfl',n3:=by rfl',nc:=by rfl',sys:=by rfl',lim:=by rfl',top:=by rfl',tab:=by rfl',cls:=by rfl',
  m1:=by rfl',b1:=by rfl',b2:=by rfl',fs:=by rfl',fe:=by rfl',ms:=by rfl',me:=by rfl',co:=MP.Lake.Zf (by rfl') (by rfl'),cn:=by rfl',
  to:=⟨by rfl',⟨by rfl',by rfl',by rfl'⟩,by rfl'⟩,tk:=by rfl',th:=by rfl'}
 have ck2:MP.Lake.Ck2 (PySem.Challenge.cw_uk0012_01_holds.heap_40 w.params) w:={ck with h1:=by rfl',h2:=by rfl',h3:=by rfl',bm:=by rfl',t1:=by rfl',t2:=by rfl',t3:=by rfl'}
 have YD:MP.Lake.RL (PySem.Challenge.cw_uk0012_01_holds.heap_40 w.params) 3 "law" =some (.ref 236):=by rfl'
 have ck3:MP.Lake.Ck3 (PySem.Challenge.cw_uk0012_01_holds.heap_40 w.params) w:={ck2 with t0:=by rfl',law:=⟨236,YD⟩}
 have go:=MP.Lake.U6 KX ck3 hg Tu rfl rfl rfl hI hz MP.Lake.UJ (MP.Lake.WK hz) YD;refine af go (fun v s' ⟨hv,hK,hos,Uu⟩=>?_) (fun _ _ f=>f.elim);subst hv;exact ⟨.inl ⟨_,_,[],rfl,(fun _=>by first | rfl | rfl' | with_unfolding_all rfl),ReadsW.bool true,(by first | rfl | rfl' | with_unfolding_all rfl),fun _=>⟨List.nodup_nil,fun _ hm=>(nomatch hm)⟩⟩,hK,hos,Uu⟩;run_tac Cz.e
