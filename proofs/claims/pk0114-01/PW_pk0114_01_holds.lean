import PyProof.Rows.All
import Wide.All
import OpenK.AllK
import Wide.FinOn
import Lean
import PySem.Challenge.RW_pk0114_01
open PySem PySem.W PyProof.Rows PySem.Calls PySem.Spec
set_option Elab.async false
set_option linter.all false
set_option genSizeOf false
set_option genInjectivity false
set_option genCtorIdx false
set_option bootstrap.genMatcherCode false
set_option tactic.hygienic false
namespace Mine
set_option maxRecDepth 100000 in
set_option maxHeartbeats 8000000 in
open_top hd for (PySem.Challenge.rw_pk0114_01).row
set_option maxHeartbeats 4000000
set_option maxRecDepth 100000
open List (append_assoc mem_singleton map_cons length_map mem_map mem_append append_nil map_nil mem_cons map_map map_append nil_append length_cons drop_zero filter_cons cons_append)
open Str (ofString)
open _root_.Nat renaming le_trans->Pq, le_refl->PK, lt_of_lt_of_le->PZ, succ_le_succ->Rb, le_add_right->Rd, zero_le->Rj, le_succ_of_le->Ru, lt_of_le_of_lt->RI, le_of_succ_le->RL, add_le_add->RP, ne_of_lt->RQ, lt_succ_self->RU, add_le_add_right->RX, ne_of_gt->RZ, not_lt->Sh, add_le_add_left->So, lt_irrefl->Sq, sub_self->Ss, add_sub_cancel_left->T8, le_of_lt->Tf, le_of_eq->TB, mul_le_mul_left->TK, min_le_left->TZ, le_succ->U5, lt_add_of_pos_right->U7, le_add_left->Uu, add_comm->UB, lt_trichotomy->UT, add_assoc->A5, le_of_not_lt->A8, mod_lt->Ap, not_lt_zero->Au, le_of_sub_eq_zero->AC, mul_le_mul->AM, casesOn->AN, mul_le_mul_right->af, pos_of_ne_zero->aM, lt_trans->b5, succ_ne_self->bz, min_le_right->bE, le_antisymm->bL, lt_one_iff->c7
open _root_.PySem renaming sizeLine->Pr, Value->Pu, Shared->Py, Addr->PE, strKind->PO, Heap->PP, wpAny->PQ, World->Rk, Around->RE, wpAny_mono->RG, bindArgs->RW, Builtin->Sb, Stmt->Sf, wpAny_Constant_str->Sj, NameKind->Sm, starEach->Sr, typeIs_str->Sw, sliceBounds->Sz, keywordEach->SD, Keyword->SE, builtinLookup_eq_fast->SN, sysModules->T1, call_meets->T2, methodCallForm->T5, backTo->Tc, callWith->Tj, ExceptHandler->Tn, isSubtype->Tp, wpAny_dictEntries->Tr, wpAny_assign_Name->Ts, backToKw->Tv, methodCall->Tw, assignEach->Tx, codeAny->TC, callWith_type->TP, Comprehension->TR, typeLookup_type->TW, wpAny_specialOf->TX, Builtin->TY, wpAny_Constant_int->U2, IsItemIter->U4, strIterType->U6, Model->U9, PyData->Ua, bootBuiltins->Ub, wpAny_pyNext_list_item->Ud, wpAny_pyNext_list_end->Uh, Const->Um, Scope->Un, wpAny_field->Uo, evalArgs->Up, JoinOk->Ur, letOwnedTupleGo->Ut, CmpOp->Uv, codeAny_forLoop_any->Uw, seqIndex?->UD, FuncData->UG, cameBackBy->UJ, slot_list_getitem->UU, wpAny_of_eq->UV, wpAny_pyIter_list->UW, BoolOp->UY, assign->A3, binaryOp->A6, wpAny_list_append_plain->A7, Flow->A9, exec->Ac, slot_list_setitem->Ae, sliceRange->Af, wpAny_call->Ak, spliced->Am, codeAny_of_tree->Av, pushCells_keeps->Aw, wpAny_execs_nil->Ax, codeAny_call_function->Az, Operator->AH, constantsAlone->AI, wpAny_loadName_local->AK, wpAny_seqItems->AR, rawInt->AS, wpAny_alloc->AT, mergedKeywords->AU, unpackItems->AX, wpAny_listPart->AY, wpAny_bindName->AZ, unbindBehindTheSuite->a9, UnaryOp->ag, wpAny_loadName_cell->al, length_partsBetween->ar, wpAny_Constant_none->av, wpAny_Constant_bool->aw, foldedForSure->aD, evalPart_none->aF, wpAny_onRaise->aG, comprehension->aJ, wpAny_rule->aP, Reads->b4, valueAt->b8, setItem->bf, truthy->bm, strValues->bo, pushCells->bx, ExcStrFacts->bJ, limitOf->bV, wpAny_load->c8, keywordsIn->cc, pyNext->cf, closureFor->cg, handleBy->ci, cLine->cj, typeOf->cr, pyIter->ct
open _root_.PySem.Txt renaming lower->Pt, join->PW, strip->RT, swapcase->Sk, replace->SA, split->SF, upper->Tl, splitMax->TA, contains->Uy, slice->UC, rstripChars->Ar, mul->aZ, stripBy->bH
open _root_.PySem.Str renaming ofString->Pv, empty->PF, length_append->PN, length->Sa, mk->T7
open _root_.List renaming mem_singleton->Pw, length_append->PB, casesOn->PD, append_assoc->PH, length_map->PJ, append_nil->PS, all_eq_true->PT, mem_append->PU, getElem?_eq_getElem->PY, getElem?_eq_some_iff->R0, mem_append_right->Ra, isEmpty_iff->Rf, mem_map->Ri, map->Rm, getElem?_append_right->Rn, mem_append_left->Ro, mem_cons->Rq, mem_of_getElem?->Rr, map_append->Rt, replicate->Rw, getElem_mem->Rx, lookup_cons->Ry, getElem?_append_left->RB, getElem?_eq_none->RC, forall_mem_cons->RH, mem_filter->RM, map_cons->RO, contains_iff_mem->RR, mem_map_of_mem->RS, size_toArray->RV, length_filter_le->RY, getD_eq_getElem?_getD->S7, drop_eq_getElem_cons->S9, lookup->Sg, length->Sp, map_map->Su, forIn_cons->SJ, map_congr_left->SK, filter_append->SM, set_append_right->SQ, getElem?_eq_none_iff->SU, getElem?_map->SW, length_cons->SX, take_succ_eq_append_getElem->SY, map_eq_nil_iff->T4, forIn_nil->T6, length_take->T9, take_append_of_le_length->Tb, take_of_length_le->Tg, singleton_append->Tq, flatMap_cons->Tt, dropWhile_cons_of_pos->Tz, mem_reverse->TD, drop_length->TE, replicate_succ->TH, reverse_append->TQ, any_cons->TS, filterMap_cons_some->TT, sum_cons->TU, nil_append->U3, length_range->Uf, mem_range->Ug, mem_flatMap->Uj, all_cons->Uk, reverse_reverse->Uq, nodup_cons->Us, mem_filterMap->UF, nodup_nil->UL, range->UM, dropWhile_cons_of_neg->UN, extract_eq_take_drop->UR, nodup_append->US, filter_congr->UX, drop_zero->Ad, getElem?_set_self->Ai, map_nil->Al, any_map->An, filter_eq_nil_iff->Aq, find?_cons->As, pairwise_reverse->AA, dropWhile_append->AF, dropWhile_suffix->AG, getElem?_set_ne->AL, cons_append->AW, dropWhile->ae, getElem_of_mem->ak, filterMap_cons->ao, filter_sublist->au, filter_eq_self->ax, takeWhile_cons->ay, dropWhile_cons->az, filter_flatMap->aA, length_reverse->aC, zip_nil_right->aT, forIn_toArray->aW, findIdx?_cons->aX, filter_filter->aY, flatten_cons->b7, reverse_cons->bb, any_eq_false->bj, foldl_append->bl, mem_toArray->bq, map_fst_zip->br, isEmpty_map->bB, take_length->bC, append_inj'->bF, range_succ->bM, sum_append->bO, filter_map->bP, any_append->bQ, foldl->bY, take->cq
open _root_.PySem.PyData renaming strOk->Pz, depthAll->Rz, canLayAll0->RD, eqv->Sn, list->SV, eqvAll->TV, tuple->Ag, str->Ao
open _root_.PySem.Expr renaming casesOn->PC
open _root_.Option renaming bind_some->PL, isSome_iff_exists->Se, map_eq_some_iff->Sv, isSome_none->Td, isNone_iff_eq_none->TG, map_some->Ay, none->AV, getD_none->bD
open _root_.Bool renaming false_eq_true->R7, and_eq_true->Rl, not_eq_true'->S8, false_ne_true->Te, or_eq_true->Tk, or_false->A1, false_and->c6
open _root_.PySem.Heap renaming get?_push_size->Rg, lt_size->RJ, SameBut->RK, size_push->SL, get?_update_self->SP, get?_push_of_some->Ah, get?_update_other->Aj, NewExc->bG, NotedW->bI
open _root_.Prod renaming snd->Rh, fst->RN, ext->cu
open _root_.PySem.Unicode renaming isSpace->Rp
open _root_.Except renaming ok->Rs
open _root_.Int renaming toNat->RA, ofNat_lt->SZ, toNat_natCast->Ue, toNat_of_nonneg->Ux, natCast_nonneg->UI, fmod->bX
open _root_.PySem.Sre.M renaming runFor->Sl, step->aO
open _root_.PySem.Stmt renaming casesOn->Sy
open _root_.PySem.W renaming emptyDict->SH, instObj->Uz, findIn->bu
open _root_.ForInStep renaming yield->SI
open _root_.Ne renaming symm->SO
open _root_.PySem.StrLaws renaming glued_eq_join->SS, occ_length_le_len->UO
open _root_.Int.ofNat renaming inj->T3
open _root_.PySem.Calls renaming spliced_nil->Ta, Name_function_global->AJ, evalArgs_plain->AP
open _root_.PySem.Challenge renaming rw_pk0114_01->Ti
open _root_.PySem.Value renaming isStrOf->To, isStrOf_shape->TO, none->U1, ref->ai, type->ce, str->cn
open _root_.Array renaming getElem?_eq_some_iff->Tu, length_toList->TM, ext'->UE, getElem?_toList->AE, toList_extract->aa, getD->aN, all_eq_true->bh, all_toList->bA
open _root_.PySem.Heap.SameBut renaming update->TI
open _root_.PySem.Builtin.Str renaming strKind->TJ, tooLong->am
open _root_.True renaming intro->U0
open _root_.PySem.CmpOp renaming NotIn->U8
open _root_.PySem.Sre renaming M->Uc, Seen->AQ, ops->ah, inSet->ck
open _root_.PUnit renaming unit->Ui
open _root_.PySem.NameKind renaming free->Ul, cell->aH
open _root_.PySem.Builtin.List renaming listSubscript?->UA, listTooLong->UZ, listSameRef->A4
open _root_.PyProof.Rows renaming assignInOrder_cons->UH, tail_any->AO, subscriptTail->aE, isTrue_plain->bc, IntsAre->bU
open _root_.PySem.F renaming called_str->UK, excStr_ValueError->UP, excStr_IndexError->UQ, slot_dict_items->Ab
open _root_.PySem.Expr.UnaryOp renaming sizeOf_spec->A0
open _root_.PySem.Expr.BoolOp renaming sizeOf_spec->Aa
open _root_.List.cons renaming sizeOf_spec->AD, inj->aK
open _root_.PySem.Manifest renaming find?->a8
open _root_.PySem.Flow renaming next->aj
open _root_.PySem.P renaming getItem_str->aq
open _root_.PySem.Obj renaming data_mapFields->aQ, mapSeq->bZ
open _root_.PySem.Heap.IsSliceOf renaming new->aU
open _root_.ForIn renaming forIn->ba
open _root_.ToString renaming toString->bg
open _root_.List.Sublist renaming map->bp
open _root_.LawfulMonad renaming pure_bind->bv
open _root_.SizeOf renaming sizeOf->c9
noncomputable abbrev prog : Program := Ti.row.toRowW.prog
set_option genCtorIdx true in
inductive PV where
 | none | bool (b : Bool) | int (i : Int) | str (s : Str) | tup (l : List PV) | loc (n : Nat) | val (v : Pu) | il (l : List Int)
inductive q8 where
 | list (l : List PV)
 | dict (l : List (Str × PV))
 | inst (d : Nat)
 | kw (l : List (Str × PV))
abbrev q4 := List q8
abbrev Loc := List (Str × PV)
abbrev Ps := List (Str × Str)
structure LE where
 sc : List (Str × Sm)
 vs : Loc
mutual
inductive Rv (hT : PP) (ρ : List PE) (h : PP) : Pu -> PV -> Prop where
 | none : Rv hT ρ h .none .none
 | bool (b : Bool) : Rv hT ρ h (.bool b) (.bool b)
 | int (i : Int) (t : Tok) : Rv hT ρ h (.int i t) (.int i)
 | str (s : Str) (t : Tok) : s.length <= Pr -> Rv hT ρ h (.str s t) (.str s)
 | tup {a : PE} {vs : List Pu} {l : List PV} : h.IsTuple a vs.toArray -> RvL hT ρ h vs l -> Rv hT ρ h (.ref a) (.tup l)
 | loc {n : Nat} {a : PE} : ρ[n]? = some a -> Rv hT ρ h (.ref a) (.loc n)
 | val (v : Pu) : Rv hT ρ h v (.val v)
 | il {a : PE} {vs : List Pu} {l : List Int} : hT.IsList a vs.toArray -> bU vs l -> Rv hT ρ h (.ref a) (.il l)
inductive RvL (hT : PP) (ρ : List PE) (h : PP) : List Pu -> List PV -> Prop where
 | nil : RvL hT ρ h [] []
 | cons {v : Pu} {p : PV} {vs : List Pu} {ps : List PV} : Rv hT ρ h v p -> RvL hT ρ h vs ps -> RvL hT ρ h (v :: vs) (p :: ps)
end
inductive RvD (hT : PP) (ρ : List PE) (h : PP) : List (Str × Pu) -> Loc -> Prop where
 | nil : RvD hT ρ h [] []
 | cons {k : Str} {v : Pu} {p : PV} {vs : List (Str × Pu)} {ps : Loc} : Rv hT ρ h v p -> RvD hT ρ h vs ps -> RvD hT ρ h ((k, v) :: vs) ((k, p) :: ps)
def Rc (w : Rk) (hT : PP) (ρ : List PE) (h : PP) (a : PE) : q8 -> Prop
 | .list l => l.length <= Pr + 1 /\ ∃ vs : List Pu, h.PlainList a vs.toArray /\ RvL hT ρ h vs l
 | .dict l => ∃ kvs : List (Str × Pu), h.DictOf (strKind prog w) a kvs /\ RvD hT ρ h kvs l
 | .inst d => ∃ x, ρ[d]? = some x /\ h.get? a = some { cls := .ref 187, dict := some x, data := .plain }
 | .kw l => ∃ kvs : List (Str × Pu), h.DictAt (strKind prog w) a kvs l.length /\ RvD hT ρ h kvs l
def Kp (own ρ : List PE) (h h' : PP) : Prop :=
 ∀ b o, h.get? b = some o -> b ∉ ρ -> b ∉ own -> ∃ sl, h'.get? b = some { o with slots := sl }
structure Le (own ρ : List PE) (h : PP) (ρ' : List PE) (h' : PP) : Prop where
 ext : ∃ more, ρ' = ρ ++ more /\ ∀ a ∈ more, h.get? a = none
 kp : Kp own ρ h h'
 st : ∀ b o, h.get? b = some o -> ∃ o', h'.get? b = some o'
 ex : ∀ b o, h.get? b = some o -> b ∉ ρ -> b ∉ own -> (∀ es ep, o.data ≠ .dict es ep) -> h'.get? b = some o
structure SR (w : Rk) (hT : PP) (ρ : List PE) (μ : q4) (h : PP) : Prop where
 top : ∀ b o, hT.get? b = some o -> h.get? b = some o
 nodup : ρ.Nodup
 len : ρ.length = μ.length
 notop : ∀ a ∈ ρ, hT.get? a = none
 low : (∃ b o, T1 < b /\ hT.get? b = some o) /\ ∀ a ∈ ρ, T1 < a
 cells : ∀ (n : Nat) a c, ρ[n]? = some a -> μ[n]? = some c -> Rc w hT ρ h a c
theorem Kp.refl (own ρ : List PE) (h : PP) : Kp own ρ h h := fun zz o e zz zz => ⟨o.slots, e⟩
theorem Kp.of_keeps {own ρ : List PE} {h h' : PP} (k : ∀ b o, b ∉ own -> h.get? b = some o -> h'.get? b = some o) : Kp own ρ h h' := fun b o e zz hb => ⟨o.slots, k b o hb e⟩
theorem Le.refl (own ρ : List PE) (h : PP) : Le own ρ h ρ h := ⟨⟨[], by simp, by simp⟩, Kp.refl own ρ h, fun zz o e => ⟨o, e⟩, fun zz zz e zz zz zz => e⟩
theorem Le.of_keeps {own ρ : List PE} {h h' : PP} (k : ∀ b o, h.get? b = some o -> h'.get? b = some o) : Le own ρ h ρ h' := ⟨⟨[], by simp, by simp⟩, Kp.of_keeps fun b o zz => k b o, fun b o e => ⟨o, k b o e⟩, fun b o e zz zz zz => k b o e⟩
theorem Le.weaken {own own' ρ ρ' : List PE} {h h' : PP} (x : Le own ρ h ρ' h') (hs : ∀ b o, h.get? b = some o -> b ∈ own -> b ∈ own') : Le own' ρ h ρ' h' :=
 ⟨x.ext, fun b o e hn ho => x.kp b o e hn fun q => ho (hs b o e q), x.st, fun b o e hn ho hd => x.ex b o e hn (fun q => ho (hs b o e q)) hd⟩
theorem Le.out {own ρ ρ' : List PE} {h h' : PP} (x : Le own ρ h ρ' h') {b : PE} {o : Obj} (hb : h.get? b = some o) (hn : b ∉ ρ) : b ∉ ρ' := by
 obtain ⟨m, e, f⟩ := x.ext
 rw [e]
 intro hm
 rcases PU.mp hm with q | q
 ·exact hn q
 ·rw [f b q] at hb; cases hb
theorem Le.trans {own ρ ρ' ρ'' : List PE} {h h' h'' : PP} (x : Le own ρ h ρ' h') (y : Le own ρ' h' ρ'' h'') : Le own ρ h ρ'' h'' := by
 obtain ⟨m, e, f⟩ := x.ext
 obtain ⟨m', e', f'⟩ := y.ext
 refine ⟨⟨m ++ m', by rw [e', e, PH], fun a ha => ?_⟩, fun b o hb hn ho => ?_, fun b o hb => ?_, fun b o hb hn ho hd => y.ex b o (x.ex b o hb hn ho hd) (x.out hb hn) ho hd⟩
 ·rcases PU.mp ha with q | q
  ·exact f a q
  ·induction hq : h.get? a with
   | none => rfl
   | some o => obtain ⟨o', ho'⟩ := x.st a o hq; rw [f' a q] at ho'; cases ho'
 ·obtain ⟨sl, hs⟩ := x.kp b o hb hn ho
  obtain ⟨sl', hs'⟩ := y.kp b _ hs (x.out hb hn) ho
  exact ⟨sl', hs'⟩
 ·obtain ⟨o', ho'⟩ := x.st b o hb
  exact y.st b o' ho'
theorem Le.any {own ρ ρ' : List PE} {h h' : PP} (x : Le [] ρ h ρ' h') : Le own ρ h ρ' h' := x.weaken fun zz zz zz q => nomatch q
theorem jn {ρ ρ' : List PE} {n : Nat} {a : PE} (h : ∃ more, ρ' = ρ ++ more) (e : ρ[n]? = some a) : ρ'[n]? = some a := by
 obtain ⟨m, rfl⟩ := h
 rw [RB (R0.mp e).1]; exact e
def Kv (h h' : PP) : Prop := ∀ b o, h.get? b = some o -> (o.cls = .type "tuple" /\ ∃ vs n, o.data = .seq vs n) -> ∃ sl, h'.get? b = some { o with slots := sl }
theorem FW {h h' : PP} (k : Kv h h') {a : PE} {vs : Array Pu} (t : h.IsTuple a vs) : h'.IsTuple a vs := by
 obtain ⟨o, ho, hc, n, hd⟩ := t
 obtain ⟨sl, hs⟩ := k _ o ho ⟨hc, _, n, hd⟩
 exact ⟨_, hs, hc, n, hd⟩
theorem Rv.mono {hT : PP} {ρ ρ' : List PE} {h h' : PP} (hx : ∃ more, ρ' = ρ ++ more) (k : Kv h h') {v : Pu} {p : PV} (r : Rv hT ρ h v p) : Rv hT ρ' h' v p :=
 Rv.rec (motive_1 := fun v p zz => Rv hT ρ' h' v p) (motive_2 := fun vs ps zz => RvL hT ρ' h' vs ps) .none .bool .int .str (fun t zz ih => .tup (FW k t) ih) (fun hn => .loc (jn hx hn)) .val .il .nil (fun zz zz a b => .cons a b) r
theorem RvL.mono {hT : PP} {ρ ρ' : List PE} {h h' : PP} (hx : ∃ more, ρ' = ρ ++ more) (k : Kv h h') {vs : List Pu} {ps : List PV} (r : RvL hT ρ h vs ps) : RvL hT ρ' h' vs ps :=
 RvL.rec (motive_1 := fun v p zz => Rv hT ρ' h' v p) (motive_2 := fun vs ps zz => RvL hT ρ' h' vs ps) .none .bool .int .str (fun t zz ih => .tup (FW k t) ih) (fun hn => .loc (jn hx hn)) .val .il .nil (fun zz zz a b => .cons a b) r
theorem RvD.mono {hT : PP} {ρ ρ' : List PE} {h h' : PP} (hx : ∃ more, ρ' = ρ ++ more) (k : Kv h h') {vs : List (Str × Pu)} {ps : Loc} (x : RvD hT ρ h vs ps) : RvD hT ρ' h' vs ps := by
 induction x with
 | nil => exact .nil
 | cons a _ ih => exact .cons (a.mono hx k) ih
theorem Xg {P : Prop} (h : ∀ G : Prop, (P -> G) -> G) : P := h P id
theorem SR.data {w : Rk} {hT : PP} {ρ : List PE} {μ : q4} {h : PP} (S : SR w hT ρ μ h) {b : PE} (hm : b ∈ ρ) : ∃ o, h.get? b = some o /\ o.cls ≠ .type "tuple" /\ (∀ vs, o.data ≠ .fields vs) /\ o.cls ≠ .type "frame" := by
 obtain ⟨n, hlt, hn⟩ := ak hm
 have hn' : ρ[n]? = some b := by rw [PY hlt, hn]
 have hμ : n < μ.length := S.len ▸ hlt
 have hc' := S.cells n b μ[n] hn' (PY hμ)
 induction hcell : μ[n] with
 | list l =>
   rw [hcell] at hc'
   obtain ⟨_, vs, ⟨m, hp⟩, _⟩ := hc'
   exact ⟨_, hp, by simp, by simp, by simp⟩
 | dict l =>
   rw [hcell] at hc'
   obtain ⟨kvs, ⟨o', es, ep, ho, hx, hd, _⟩, _⟩ := hc'
   exact ⟨_, ho, by rw [hx.1]; simp, by rw [hd]; simp, by rw [hx.1]; simp⟩
 | inst d =>
   rw [hcell] at hc'
   obtain ⟨x, _, hp⟩ := hc'
   exact ⟨_, hp, by simp, by simp, by simp⟩
 | kw l =>
   rw [hcell] at hc'
   obtain ⟨kvs, ⟨o', es, ho, hx, hd, _⟩, _⟩ := hc'
   exact ⟨_, ho, by rw [hx.1]; simp, by rw [hd]; simp, by rw [hx.1]; simp⟩
def gB (own : List PE) (h : PP) : Prop := ∀ b ∈ own, ∀ o, h.get? b = some o -> (∃ es ep, o.data = .dict es ep) \/ ∃ v, o.data = .cell v
theorem gB.nil (h : PP) : gB [] h := fun zz hb => nomatch hb
theorem SR.kv {w : Rk} {hT : PP} {own ρ ρ' : List PE} {μ : q4} {h h' : PP} (S : SR w hT ρ μ h) (O : gB own h) (x : Le own ρ h ρ' h') : Kv h h' := by
 intro b o hb hc
 have hn : b ∉ ρ := by
  intro hm
  obtain ⟨o', ho', h1, h2, _⟩ := S.data hm
  rw [hb] at ho'; cases ho'
  exact h1 hc.1
 have ho : b ∉ own := by
  intro hm
  obtain ⟨_, vs, n, q⟩ := hc
  rcases O b hm o hb with ⟨es, ep, hd⟩ | ⟨v, hd⟩ <;> (rw [hd] at q; cases q)
 obtain ⟨sl, hs⟩ := x.kp b o hb hn ho
 exact ⟨sl, hs⟩
theorem Le.pre {own ρ ρ' : List PE} {h h' : PP} (x : Le own ρ h ρ' h') : ∃ more, ρ' = ρ ++ more := let ⟨m, e, _⟩ := x.ext; ⟨m, e⟩
theorem Rv.le {w : Rk} {hT : PP} {ρ ρ' : List PE} {μ : q4} {h h' : PP} {v : Pu} {p : PV} (r : Rv hT ρ h v p) (S : SR w hT ρ μ h) (x : Le [] ρ h ρ' h') : Rv hT ρ' h' v p := r.mono x.pre (S.kv (gB.nil h) x)
theorem RvL.le {w : Rk} {hT : PP} {ρ ρ' : List PE} {μ : q4} {h h' : PP} {v : List Pu} {p : List PV} (r : RvL hT ρ h v p) (S : SR w hT ρ μ h) (x : Le [] ρ h ρ' h') : RvL hT ρ' h' v p := r.mono x.pre (S.kv (gB.nil h) x)
structure qN (hT : PP) (ρ : List PE) (h : PP) (env : Env) (σ : LE) : Prop where
 kind : env.scope.kind = .function
 names : env.scope.names = σ.sc
 glob : env.globals = mainGlobals
 blt : env.builtins = builtinsNs
 loc : env.locals ∉ ρ
 ns : ∃ m, h.Ns env.locals m /\ ∀ x p, σ.vs.lookup x = some p -> σ.sc.lookup x = some .local -> ∃ v, m x = some v /\ Rv hT ρ h v p
 cel : ∀ x p, σ.vs.lookup x = some p -> σ.sc.lookup x = some .cell -> ∃ c v, env.cells.lookup x = some c /\ h.IsCell c (some v) /\ Rv hT ρ h v p
 cells : ∀ q ∈ env.cells, q.2 ∉ ρ /\ q.2 ≠ env.locals /\ ∃ v, h.IsCell q.2 v
 sep : ∀ q ∈ env.cells, ∀ q' ∈ env.cells, q.2 = q'.2 -> q.1 = q'.1
 has : ∀ x, σ.sc.lookup x = some .cell -> ∃ c, env.cells.lookup x = some c
theorem Kp.ns {own ρ : List PE} {h h' : PP} (k : Kp own ρ h h') {a : PE} {m : Str -> Option Pu} (hn : h.Ns a m) (ha : a ∉ ρ) (hb : a ∉ own) : h'.Ns a m := by
 obtain ⟨o, es, ep, ho, hd, r⟩ := hn
 obtain ⟨sl, hs⟩ := k a o ho ha hb
 exact ⟨_, es, ep, hs, hd, r⟩
theorem Kp.isCell {own ρ : List PE} {h h' : PP} (k : Kp own ρ h h') {a : PE} {v : Option Pu} (hn : h.IsCell a v) (ha : a ∉ ρ) (hb : a ∉ own) : h'.IsCell a v := by
 obtain ⟨o, ho, hd⟩ := hn
 obtain ⟨sl, hs⟩ := k a o ho ha hb
 exact ⟨_, hs, hd⟩
theorem qN.le {w : Rk} {hT : PP} {ρ ρ' : List PE} {μ : q4} {h h' : PP} {env : Env} {σ : LE} (R : qN hT ρ h env σ) (S : SR w hT ρ μ h) (x : Le [] ρ h ρ' h') : qN hT ρ' h' env σ := by
 obtain ⟨m, hm, hv⟩ := R.ns
 have hloc : env.locals ∉ ρ' := by
  obtain ⟨o, _, _, ho, _⟩ := hm
  exact x.out ho R.loc
 refine ⟨R.kind, R.names, R.glob, R.blt, hloc, ⟨m, x.kp.ns hm R.loc (by simp), fun y p hy hk => ?_⟩, fun y p hy hk => ?_, fun q hq => ?_, R.sep, R.has⟩
 ·obtain ⟨v, h1, h2⟩ := hv y p hy hk
  exact ⟨v, h1, h2.le S x⟩
 ·obtain ⟨c, v, hc, hi, hr⟩ := R.cel y p hy hk
  exact ⟨c, v, hc, x.kp.isCell hi (R.cells _ (mem_of_lookup hc)).1 (by simp), hr.le S x⟩
 ·obtain ⟨h1, h2, v, h3⟩ := R.cells q hq
  refine ⟨?_, h2, v, x.kp.isCell h3 h1 (by simp)⟩
  obtain ⟨o, ho, _⟩ := h3
  exact x.out ho h1
structure Stk (hT : PP) (A : RE) (ρ : List PE) (h : PP) (l : List Env) : Prop where
 fr : A.frames = some l
 ff : h.FunFrames hT l
 out : ∀ env ∈ l, ∀ L, env.frame = some L -> L ∉ ρ /\ ∃ o, h.get? L = some o /\ ∃ es ep, o.data = .dict es ep
theorem yb {hT : PP} {own ρ : List PE} {h h' : PP} (k : Kp own ρ h h') {l : List Env} : h.FunFrames hT l -> (∀ env ∈ l, ∀ L, env.frame = some L -> L ∉ ρ /\ L ∉ own) -> h'.FunFrames hT l := by
 induction l with
 | nil => exact fun zz zz => trivial
 | cons env l ih =>
   rintro ⟨hk, ⟨L, o, hf, hn, ho, hd⟩, hr⟩ hout
   have q := hout env (.head _) L hf
   obtain ⟨sl, hs⟩ := k L o ho q.1 q.2
   exact ⟨hk, ⟨L, _, hf, hn, hs, hd⟩, ih hr fun e he => hout e (.tail _ he)⟩
theorem Stk.le {hT : PP} {A : RE} {ρ ρ' : List PE} {h h' : PP} {l : List Env} (K : Stk hT A ρ h l) (x : Le [] ρ h ρ' h') : Stk hT A ρ' h' l := by
 refine ⟨K.fr, yb x.kp K.ff fun e he L hf => ⟨(K.out e he L hf).1, by simp⟩, fun e he L hf => ?_⟩
 obtain ⟨h1, o, ho, hd⟩ := K.out e he L hf
 obtain ⟨sl, hs⟩ := x.kp L o ho h1 (by simp)
 exact ⟨x.out ho h1, _, hs, hd⟩
noncomputable def qy (env : Env) : List PE := env.locals :: env.cells.map (·.2)
theorem qN.ownOK {hT : PP} {ρ : List PE} {h : PP} {env : Env} {σ : LE} (R : qN hT ρ h env σ) : gB (qy env) h := by
 intro b hb o ho
 rcases Rq.mp hb with rfl | hb
 ·obtain ⟨m, ⟨o', es, ep, ho', hd, _⟩, _⟩ := R.ns
  rw [ho] at ho'; cases ho'
  exact .inl ⟨es, ep, hd⟩
 ·obtain ⟨q, hq, rfl⟩ := Ri.mp hb
  obtain ⟨_, _, v, o', ho', hd⟩ := R.cells q hq
  rw [ho] at ho'; cases ho'
  exact .inr ⟨v, hd⟩
theorem qN.out {hT : PP} {ρ : List PE} {h : PP} {env : Env} {σ : LE} (R : qN hT ρ h env σ) {b : PE} (hb : b ∈ qy env) : b ∉ ρ := by
 rcases Rq.mp hb with rfl | hb
 ·exact R.loc
 ·obtain ⟨q, hq, rfl⟩ := Ri.mp hb
  exact (R.cells q hq).1
structure Exn where
 cls : String
 msg : Option Str
 here : Bool
abbrev PR (α : Type) := Option (Except Exn α × q4)
abbrev PM (α : Type) := q4 -> PR α
noncomputable def pret {α : Type} (a : α) : PM α := fun μ => some (.ok a, μ)
noncomputable def qa {α β : Type} (m : PR α) (f : α -> PM β) : PR β := match m with
 | none => none
 | some (.error x, μ) => some (.error x, μ)
 | some (.ok a, μ) => f a μ
noncomputable def Fw {α : Type} (x : Exn) : PM α := fun μ => some (.error x, μ)
theorem wV {α β : Type} {m : PR α} {f : α -> PM β} {r : Except Exn β} {μ' : q4} (h : qa m f = some (r, μ')) :
 (∃ x, m = some (.error x, μ') /\ r = .error x) \/ (∃ a μ₁, m = some (.ok a, μ₁) /\ f a μ₁ = some (r, μ')) := by
 match m, h with
 | some (.error x, μ), h => cases h; exact .inl ⟨_, rfl, rfl⟩
 | some (.ok a, μ), h => exact .inr ⟨a, μ, rfl, h⟩
noncomputable abbrev MM (w : Rk) : U9 := model prog w
structure ExB (h₀ h : PP) (e : PE) (x : Exn) (oe : Obj) (vs : Array Pu) (a0 : Pu) : Prop where
 g : h.get? e = some oe
 c : oe.cls = .type x.cls
 d : oe.data = .fields vs
 a : vs[0]? = some a0
 m : ∀ m, x.msg = some m -> ∃ t tk, a0 = .ref t /\ h.TupAt t [.str m tk]
 f : h₀.get? e = none
structure NtA (h₀ h : PP) (e : PE) (vs : Array Pu) (fl : Pu) (T : PE) (oT : Obj) (ts : Array Pu) : Prop where
 r : vs[1]? = some (.ref T)
 n : T ≠ e
 g : h.get? T = some oT
 d : oT.data = .fields ts
 q : ts[3]? = some fl
 f : h₀.get? T = none
def ww (h₀ h' : PP) (e : PE) (x : Exn) : Prop :=
 ∃ oe vs a0, ExB h₀ h' e x oe vs a0 /\ (if x.here = true then vs[1]? = some .none else ∃ T oT ts, NtA h₀ h' e vs .none T oT ts)
theorem vB {own ρ ρ' : List PE} {h h' : PP} (x : Le own ρ h ρ' h') {b : PE} (e : h'.get? b = none) : h.get? b = none := by
 induction hq : h.get? b with
 | none => rfl
 | some o => obtain ⟨o', ho'⟩ := x.st b o hq; rw [e] at ho'; cases ho'
theorem ExB.le {own ρ ρ' : List PE} {h₀ h h' : PP} {e : PE} {x : Exn} {oe : Obj} {vs : Array Pu} {a0 : Pu} (y : Le own ρ h₀ ρ' h) (q : ExB h h' e x oe vs a0) : ExB h₀ h' e x oe vs a0 := ⟨q.g, q.c, q.d, q.a, q.m, vB y q.f⟩
theorem NtA.le {own ρ ρ' : List PE} {h₀ h h' : PP} {e T : PE} {oT : Obj} {vs ts : Array Pu} {fl : Pu} (y : Le own ρ h₀ ρ' h) (q : NtA h h' e vs fl T oT ts) : NtA h₀ h' e vs fl T oT ts := ⟨q.r, q.n, q.g, q.d, q.q, vB y q.f⟩
set_option tactic.hygienic true in
theorem ww.le {own ρ ρ' : List PE} {h₀ h h' : PP} {e : PE} {x : Exn} (y : Le own ρ h₀ ρ' h) (q : ww h h' e x) : ww h₀ h' e x := by
 obtain ⟨oe, vs, t, b, h7⟩ := q
 refine ⟨oe, vs, t, b.le y, ?_⟩
 split
 ·rename_i hh; rw [if_pos hh] at h7; exact h7
 ·rename_i hh
  rw [if_neg hh] at h7
  exact h7.imp fun T h => h.imp fun o h => h.imp fun ts h => h.le y
structure xH {α β : Type} (w : Rk) (hT : PP) (rel : List PE -> PP -> α -> β -> Prop) (ρ : List PE) (s : Py) (r : Except Exn β) (μ' : q4) (Q : α -> Py -> Prop) (E : Pu -> Py -> Prop) : Prop where
 ok : ∀ a h' tk ρ' b, r = .ok b -> Le [] ρ s.heap ρ' h' -> SR w hT ρ' μ' h' -> rel ρ' h' a b -> 1 <= tk -> Q a { s with heap := h', toks := tk }
 err : ∀ e h' tk ρ' x, r = .error x -> Le [] ρ s.heap ρ' h' -> SR w hT ρ' μ' h' -> ww s.heap h' e x -> 1 <= tk -> E (.ref e) { s with heap := h', toks := tk }
structure xT {α β : Type} (w : Rk) (hT : PP) (rel : List PE -> PP -> α -> β -> Prop) (ρ : List PE) (s : Py) (r : Except Exn β) (μ' : q4) (Q : α -> Py -> Prop) (E : Pu -> Py -> Prop) : Prop where
 ok : ∀ a h' tk ρ' b, r = .ok b -> Le [] ρ s.heap ρ' h' -> SR w hT ρ' μ' h' -> rel ρ' h' a b -> Q a { s with heap := h', toks := tk }
 err : ∀ e h' tk ρ' x, r = .error x -> Le [] ρ s.heap ρ' h' -> SR w hT ρ' μ' h' -> ww s.heap h' e x -> E (.ref e) { s with heap := h', toks := tk }
def Sim {α β : Type} (w : Rk) (hT : PP) (A : RE) (rel : List PE -> PP -> α -> β -> Prop) (ρ : List PE) (s : Py) (t : Sem α) (m : PR β) : Prop :=
 1 <= s.toks -> ∀ r μ', m = some (r, μ') -> ∀ (Q : α -> Py -> Prop) (E : Pu -> Py -> Prop), xH w hT rel ρ s r μ' Q E -> PQ (MM w) A t Q E s
theorem jk {α : Type} {M : U9} {A : RE} {t : Sem α} {Q : α -> Py -> Prop} {E : Pu -> Py -> Prop} {s : Py} (h1 : 1 <= s.toks)
 (h : PQ M A t (fun a s' => 1 <= s'.toks -> Q a s') (fun e s' => 1 <= s'.toks -> E e s') s) : PQ M A t Q E s :=
 RG (wpAny_toks_of h1 h) (fun zz zz q => q.2 q.1) (fun zz zz q => q.2 q.1)
theorem Sim.of0 {α β : Type} {w : Rk} {hT : PP} {A : RE} {rel : List PE -> PP -> α -> β -> Prop} {ρ : List PE} {s : Py} {t : Sem α} {m : PR β}
 (h : ∀ r μ', m = some (r, μ') -> ∀ (Q : α -> Py -> Prop) (E : Pu -> Py -> Prop), xT w hT rel ρ s r μ' Q E -> PQ (MM w) A t Q E s) : Sim w hT A rel ρ s t m :=
 fun h1 r μ' hm Q E P => jk h1 (h r μ' hm _ _ ⟨fun a h' tk ρ' b e1 e2 e3 e4 ht => P.ok a h' tk ρ' b e1 e2 e3 e4 ht, fun e h' tk ρ' x e1 e2 e3 e4 ht => P.err e h' tk ρ' x e1 e2 e3 e4 ht⟩)
theorem Sim.of1 {α β : Type} {w : Rk} {hT : PP} {A : RE} {rel : List PE -> PP -> α -> β -> Prop} {ρ : List PE} {s : Py} {t : Sem α} {m : PR β}
 (h : 1 <= s.toks -> ∀ r μ', m = some (r, μ') -> ∀ (Q : α -> Py -> Prop) (E : Pu -> Py -> Prop), xT w hT rel ρ s r μ' Q E -> PQ (MM w) A t Q E s) : Sim w hT A rel ρ s t m :=
 fun h1 r μ' hm Q E P => jk h1 (h h1 r μ' hm _ _ ⟨fun a h' tk ρ' b e1 e2 e3 e4 ht => P.ok a h' tk ρ' b e1 e2 e3 e4 ht, fun e h' tk ρ' x e1 e2 e3 e4 ht => P.err e h' tk ρ' x e1 e2 e3 e4 ht⟩)
section
variable {α β γ δ : Type} {w : Rk} {hT : PP} {A : RE} {rel : List PE -> PP -> α -> β -> Prop} {rel' : List PE -> PP -> γ -> δ -> Prop} {ρ ρ' : List PE} {s : Py} {h' : PP} {tk : Nat} {t : Sem α} {m : PR β}
 {r : Except Exn δ} {μ' : q4} {Q : γ -> Py -> Prop} {Q' : α -> Py -> Prop} {E : Pu -> Py -> Prop} {g : β -> PM δ}
theorem xH.le (P : xH w hT rel' ρ s r μ' Q E) (x : Le [] ρ s.heap ρ' h') : xH w hT rel' ρ' { s with heap := h', toks := tk } r μ' Q E :=
 ⟨fun a h₂ tk₂ ρ₂ b e y z q => P.ok a h₂ tk₂ ρ₂ b e (x.trans y) z q, fun e h₂ tk₂ ρ₂ b e' y z q => P.err e h₂ tk₂ ρ₂ b e' (x.trans y) z (q.le x)⟩
theorem Sim.andThen (S : Sim w hT A rel ρ s t m) (h1 : 1 <= s.toks) (hm : qa m g = some (r, μ')) (P : xH w hT rel' ρ s r μ' Q E)
 (k : ∀ a h' tk ρ' b μ₁, Le [] ρ s.heap ρ' h' -> SR w hT ρ' μ₁ h' -> rel ρ' h' a b -> 1 <= tk -> g b μ₁ = some (r, μ') -> xH w hT rel' ρ' { s with heap := h', toks := tk } r μ' Q E -> Q' a { s with heap := h', toks := tk }) :
 PQ (MM w) A t Q' E s := by
 rcases wV hm with ⟨x, hm', hr⟩ | ⟨a, μ₁, hm', hg⟩
 ·refine S h1 _ _ hm' Q' E ⟨fun a h' tk ρ' b e => (nomatch e), fun e h' tk ρ' y hy le sr ex => ?_⟩
  cases hy
  exact P.err e h' tk ρ' x hr le sr ex
 ·refine S h1 _ _ hm' Q' E ⟨fun a' h' tk ρ' b hb le sr rv ht => ?_, fun e h' tk ρ' y hy => (nomatch hy)⟩
  cases hb
  exact k a' h' tk ρ' a μ₁ le sr rv ht hg (P.le le)
end
theorem xH.now {α β : Type} {w : Rk} {hT : PP} {rel : List PE -> PP -> α -> β -> Prop} {ρ : List PE} {s : Py} {b : β} {μ μ' : q4} {r : Except Exn β} {Q : α -> Py -> Prop} {E : Pu -> Py -> Prop} {a : α} {tk : Nat}
 (P : xH w hT rel ρ s r μ' Q E) (hm : pret b μ = some (r, μ')) (S : SR w hT ρ μ s.heap) (rv : rel ρ s.heap a b) : 1 <= tk -> Q a { s with toks := tk } := by
 cases hm
 exact P.ok a s.heap tk ρ b rfl (Le.refl _ _ _) S rv
def jX (A : RE) (n : Nat) : Prop := A.handled = none /\ A.depth + n + 20 < recursionLimit /\ A.units + 20 * n + 200 < cj
theorem jX.mono {A : RE} {n m : Nat} (r : jX A n) (h : m <= n) : jX A m := ⟨r.1, by have := r.2.1; lia, by have := r.2.2; lia⟩
structure Act (w : Rk) (hT : PP) (A : RE) (l : List Env) (env : Env) (σ : LE) (ρ : List PE) (μ : q4) (h : PP) (n : Nat) : Prop where
 sr : SR w hT ρ μ h
 er : qN hT ρ h env σ
 sk : Stk hT A ρ h l
 rm : jX A n
theorem Act.le {w : Rk} {hT : PP} {A : RE} {l : List Env} {env : Env} {σ : LE} {ρ ρ' : List PE} {μ μ' : q4} {h h' : PP} {n : Nat} (X : Act w hT A l env σ ρ μ h n) (x : Le [] ρ h ρ' h') (S : SR w hT ρ' μ' h') : Act w hT A l env σ ρ' μ' h' n :=
 ⟨S, X.er.le X.sr x, X.sk.le x, X.rm⟩
set_option genCtorIdx true in
inductive j6 where
 | next | cont | brk | ret (p : PV)
noncomputable abbrev KK (w : Rk) : Frag := Mine.hd.heap_1 w.params
noncomputable def upd (σ : Loc) (x : Str) (p : PV) : Loc := match σ with
 | [] => [(x, p)]
 | (y, q) :: r => if y == x then (y, p) :: r else (y, q) :: upd r x p
noncomputable def xy : Option Sm -> Bool
 | some .local | some .cell => true
 | _ => false
noncomputable def LE.get (σ : LE) (x : Str) : Option PV := if xy (σ.sc.lookup x) then σ.vs.lookup x else none
noncomputable def LE.put (σ : LE) (x : Str) (p : PV) : Option LE := if xy (σ.sc.lookup x) then some { σ with vs := upd σ.vs x p } else none
noncomputable def LE.isG (σ : LE) (x : Str) : Bool := σ.sc.lookup x == some .globalImplicit
noncomputable def LE.comp (σ : LE) (sc : List (Str × Sm)) : LE :=
 { sc := sc.map fun nk => if (nk.2 == .free && σ.sc.lookup nk.1 == some .cell) then (nk.1, .cell) else nk, vs := σ.vs.filter fun kv => sc.lookup kv.1 == some .free }
noncomputable def yt (e : Expr) : Bool := by
 induction e using PC with
 | Set => exact true
 | _ => exact false
noncomputable def vc (e : Expr) : Bool := by
 induction e using PC with
 | Slice => exact true
 | _ => exact false
noncomputable def zu (e : Expr) : Bool := by
 induction e using PC with
 | Tuple => exact true
 | _ => exact false
noncomputable def qf (e : Expr) : Bool := by
 induction e using PC with
 | Starred => exact true
 | _ => exact false
noncomputable def g0 (e : Expr) : Bool := by
 induction e using PC with
 | SetComp => exact true
 | DictComp => exact true
 | _ => exact false
noncomputable def JE (e : Expr) : Bool := by
 induction e using PC with
 | ListComp => exact true
 | SetComp => exact true
 | DictComp => exact true
 | _ => exact false
noncomputable def wh (e : Expr) : Option (Str × Pos) := by
 induction e using PC with
 | Name x p => exact some (x, p)
 | _ => exact none
noncomputable def qW (e : Expr) : Option Str := (wh e).map fun q => q.1
noncomputable def vg (e : Expr) : Option Um := by
 induction e using PC with
 | Constant c _ _ => exact some c
 | _ => exact none
noncomputable def vQ (e : Expr) : Option (Expr × Str × Pos) := by
 induction e using PC with
 | Attribute o m p => exact some (o, m, p)
 | _ => exact none
noncomputable def Q3 (e : Expr) : Option (Expr × List Expr × List SE × Pos) := by
 induction e using PC with
 | Call f a k p => exact some (f, a, k, p)
 | _ => exact none
noncomputable def one {α : Type} : List α -> Option α
 | a :: r => if r.isEmpty then some a else none
 | [] => none
noncomputable def xB (e : Expr) : Option (Expr × Str × Pos × Pos) := (Q3 e).bind fun c => (vQ c.1).bind fun a => if c.2.1.isEmpty && c.2.2.1.isEmpty then some (a.1, a.2.1, a.2.2, c.2.2.2) else none
noncomputable def yf (e : Expr) : Option (Str × Expr) := (Q3 e).bind fun c => (qW c.1).bind fun f => (one c.2.1).bind fun x => if c.2.2.1.isEmpty then some (f, x) else none
noncomputable def qT (e : Expr) : Bool := match Q3 e with
 | some c => !((qW c.1).isSome && c.2.1.isEmpty && c.2.2.1.isEmpty)
 | none => true
noncomputable def WG : PV -> Bool
 | .val _ => true
 | _ => false
noncomputable def vj : PV -> Bool
 | .none | .bool _ | .int _ | .str _ => true
 | _ => false
noncomputable def qx : PV -> Option Str
 | .str x => some x
 | _ => none
noncomputable def zx : PV -> Option Int
 | .int x => some x
 | _ => none
noncomputable def jq : PV -> Option Nat
 | .loc x => some x
 | _ => none
noncomputable def wB : PV -> Option (List PV)
 | .tup x => some x
 | _ => none
noncomputable def DU : PV -> Option (List Int)
 | .il x => some x
 | _ => none
noncomputable def V1 : PV -> Option Pu
 | .val x => some x
 | _ => none
noncomputable def fk (p : PV) : Option String := (V1 p).bind fun v => match v with
 | .type x => some x
 | _ => none
noncomputable def WQ (p : PV) : Option PE := (V1 p).bind fun v => match v with
 | .ref x => some x
 | _ => none
noncomputable def JQ (c : q8) : PM PV := fun μ => some (.ok (.loc μ.length), μ ++ [c])
noncomputable def jr (l : List PV) : PM PV := if l.length <= Pr then JQ (.list l) else fun zz => none
noncomputable def yx (x : Str) : PM PV := if x.length <= Pr then pret (.str x) else fun zz => none
noncomputable def kh : q8 -> Option (List PV)
 | .list l => some l
 | _ => none
noncomputable def wx : q8 -> Option (Loc)
 | .dict l => some l
 | _ => none
noncomputable def cKw : q8 -> Option (Loc)
 | .kw l => some l
 | _ => none
noncomputable def xA : q8 -> Option Nat
 | .inst d => some d
 | _ => none
noncomputable def q5 (μ : q4) (n : Nat) : Option (List PV) := (μ[n]?).bind kh
noncomputable def qe (μ : q4) (n : Nat) : Option (Loc) := (μ[n]?).bind wx
noncomputable def zi (μ : q4) (n : Nat) : Option (Loc) := (μ[n]?).bind cKw
noncomputable def zZ (μ : q4) (n : Nat) : Option Nat := (μ[n]?).bind xA
noncomputable def qj (μ : q4) (n : Nat) (c : q8) : q4 := μ.set n c
noncomputable def j3 (μ : q4) (p : PV) : Option (List PV) := (jq p).bind (q5 μ)
noncomputable def qw (μ : q4) (p : PV) : Option Nat := (jq p).bind (zZ μ)
noncomputable def wX : Um -> Option PV
 | .none => some .none
 | .bool b => some (.bool b)
 | .int i => some (.int i)
 | .str x => if x.length <= 1000 then some (.str x) else none
 | _ => none
noncomputable def jj (f : PV -> Option Ua) : List PV -> Option (List Ua)
 | [] => some []
 | p :: r => (f p).bind fun d => (jj f r).map fun ds => d :: ds
noncomputable def jK (μ : q4) : Nat -> PV -> Option Ua
 | 0, _ => none
 | n + 1, p => match p with
   | .none => some .none
   | .bool b => some (.bool b)
   | .int i => some (.int i)
   | .str x => some (.str x)
   | .tup l => (jj (jK μ n) l).map .tuple
   | .loc a => (q5 μ a).bind fun l => (jj (jK μ n) l).map .list
   | _ => none
noncomputable def Lh : Nat := 8
noncomputable def jd (μ : q4) (p : PV) : Option Ua := (jK μ Lh p).bind fun d => if d.canLay0 && decide (d.depth <= 64) then some d else none
noncomputable def peq (μ : q4) (a b : PV) : Option Bool := (jd μ a).bind fun x => (jd μ b).map fun y => Sn x y
noncomputable def pin (μ : q4) (a b : PV) : Option Bool := (jd μ a).bind fun d => (jd μ b).bind fun e => match e with
 | .list xs => some (xs.any fun y => Sn y d)
 | .tuple xs => some (xs.any fun y => Sn y d)
 | .str y => (match d with
   | .str x => some (Uy y x)
   | _ => none)
 | _ => none
noncomputable def Id (μ : q4) : PV -> Option Bool
 | .none => some false
 | .bool b => some b
 | .int i => some (decide (i ≠ 0))
 | .str x => some (decide (x.length ≠ 0))
 | .loc n => (q5 μ n).map fun l => decide (l.length ≠ 0)
 | _ => none
noncomputable def KW : Str := ⟨#[37, 115, 58, 32, 37, 115]⟩
noncomputable def Js : Str := ⟨#[58, 32]⟩
noncomputable def vN : List PV -> Option (List Str)
 | [] => some []
 | p :: r => (qx p).bind fun x => (vN r).map fun t => x :: t
noncomputable def two {α : Type} : List α -> Option (α × α)
 | a :: r => (match r with
   | b :: q => if q.isEmpty then some (a, b) else none
   | [] => none)
 | [] => none
noncomputable def L9 (a b : PV) : PM PV := fun μ => match qx a with
 | some x => (qx b).bind fun y => yx (x ++ y) μ
 | none => (j3 μ a).bind fun l => (j3 μ b).bind fun m => jr (l ++ m) μ
noncomputable def I6 (x : Str) (b : PV) : PM PV := fun μ => (wB b).bind fun l => (two l).bind fun q => (qx q.1).bind fun a => (qx q.2).bind fun b =>
 if x == KW && decide (a.length <= 1000000) && decide (b.length <= 1000000) then yx ((a ++ Js) ++ b) μ else none
noncomputable def Ir (a b : PV) : PM PV := fun μ => match qx a with
 | some x => I6 x b μ
 | none => (zx a).bind fun x => (zx b).bind fun y => if y = 0 then none else pret (.int (bX x y)) μ
noncomputable def Ho (a b : PV) : PM PV := fun μ => (zx b).bind fun y => match qx a with
 | some x => if 2 <= y /\ y <= 100 /\ x.length <= 100 /\ x.length ≠ 0 then yx (aZ x y) μ else none
 | none => (j3 μ a).bind fun l => if 0 <= y /\ y < 2 ^ 62 /\ l.length * y.toNat <= Pr then JQ (.list (Rw y.toNat l).flatten) μ else none
noncomputable def kK (op : AH) (a b : PV) : PM PV := fun μ => match op with
 | .Add => L9 a b μ
 | .Mod => Ir a b μ
 | .FloorDiv => (zx a).bind fun x => (zx b).bind fun y => if y = 0 \/ 2 ^ 60 <= y.natAbs then none else pret (.int (Int.fdiv x y)) μ
 | .Sub => (zx a).bind fun x => (zx b).bind fun y => pret (.int (x - y)) μ
 | .Mult => Ho a b μ
 | _ => none
noncomputable def isNone : PV -> Option Bool
 | .none => some true
 | .bool _ | .int _ | .str _ | .tup _ | .loc _ => some false
 | .val _ | .il _ => none
noncomputable def zB (p : PV) : Bool := (qx p).isSome
noncomputable def pis (a b : PV) : Option Bool := match fk b with
 | some y => (fk a).map fun x => decide (x = y)
 | none => if (isNone b).any fun t => t then isNone a else none
noncomputable def qY (op : Uv) (a b : PV) : PM PV := fun μ => match op with
 | .Eq => (peq μ a b).map fun r => (.ok (.bool r), μ)
 | .NotEq => (peq μ a b).map fun r => (.ok (.bool (!r)), μ)
 | .Lt => (zx a).bind fun x => (zx b).bind fun y => pret (.bool (decide (x < y))) μ
 | .Gt => (zx a).bind fun x => (zx b).bind fun y => pret (.bool (decide (x > y))) μ
 | .Is => (pis a b).map fun r => (.ok (.bool r), μ)
 | .IsNot => (pis a b).map fun r => (.ok (.bool (!r)), μ)
 | .In => (pin μ a b).map fun r => (.ok (.bool r), μ)
 | .NotIn => if zB b then none else (pin μ a b).map fun r => (.ok (.bool (!r)), μ)
 | _ => none
noncomputable def xI : Exn := { cls := "IndexError", msg := none, here := true }
noncomputable def wK : Exn := { cls := "ValueError", msg := none, here := true }
noncomputable def gZ : Exn := { cls := "ValueError", msg := some (Pv "Control characters not allowed in headers"), here := true }
noncomputable def x9 (l : Loc) (k : Str) : Option PV := (l.find? fun kv => kv.1 = k).map (·.2)
noncomputable def qR (l : Loc) (k : Str) (v : PV) : Loc := if l.any (fun kv => kv.1 = k) then l.map (fun kv => if kv.1 = k then (kv.1, v) else kv) else l ++ [(k, v)]
noncomputable def W9 (x : Str) (i : Int) : PM PV := fun μ =>
 if i = 0 then (if x.length = 0 then Fw xI μ else pret (.str ⟨#[x.cps.getD 0 0]⟩) μ)
 else if i = -1 then (if x.length = 0 then Fw xI μ else pret (.str ⟨#[x.cps.getD (x.length - 1) 0]⟩) μ) else none
noncomputable def HR (a : PV) (i : Int) : PM PV := fun μ => match qx a with
 | some x => W9 x i μ
 | none => match wB a with
   | some l => if 0 <= i /\ i < 1000 then (l[i.toNat]?).map fun v => (.ok v, μ) else none
   | none => (j3 μ a).bind fun l => if 0 <= i then (l[i.toNat]?).map fun v => (.ok v, μ) else if i = -1 then (l.getLast?).map fun v => (.ok v, μ) else none
noncomputable def za (a b : PV) : PM PV := fun μ => match zx b with
 | some i => HR a i μ
 | none => (qx b).bind fun k => (jq a).bind fun n => (qe μ n).bind fun l => (x9 l k).map fun v => (.ok v, μ)
noncomputable def gO (l : List PV) (lo hi : Option Int) : List PV :=
 (Af (Sz lo hi none l.length).1 (Sz lo hi none l.length).2.1 (Sz lo hi none l.length).2.2).filterMap (l[·]?)
noncomputable def wM (a : PV) (lo hi : Option PV) : PM PV := fun μ => (hi.bind zx).bind fun j => match lo with
 | some p => (zx p).bind fun i => (qx a).bind fun x => yx (UC x (some i) (some j)) μ
 | none => match DU a with
   | some l => if l.length <= Pr then jr (gO (l.map .int) none (some j)) μ else none
   | none => (j3 μ a).bind fun l => if l.length <= Pr then jr (gO l none (some j)) μ else none
noncomputable def fns : List (Str × PE) := [("parse_keqv_list", 38), ("parse_http_list", 43), ("_formatparam", 66), ("_law_step", 196), ("_law_items", 201), ("_law_whole", 208), ("_law_read", 215), ("_law_write", 220), ("_law_proxy", 225), ("_law_play", 230), ("_law_back", 235), ("_law_due", 240), ("_law_dict", 245)]
noncomputable def vA : List (Str × PE) := [("_convert_string_type", 88), ("get_all", 126), ("get", 134), ("setdefault", 177), ("add_header", 184)]
noncomputable def Ql (a : PE) : List PV := if a = 66 then [.none, .int 1] else if a = 81 \/ a = 134 then [.none] else []
noncomputable def EW : Loc := [("tspecials", .val (.ref 48)), ("_name_disallowed_re", .val (.ref 53)), ("_value_disallowed_re", .val (.ref 58)), ("str", .val (.type "str")), ("list", .val (.type "list"))]
structure Fn where
 names : List Str
 kwonly : List Str
 kwarg : Option Str
 sc : List (Str × Sm)
 body : List Sf
abbrev FT := PE -> Option Fn
structure Ev where
 ev : LE -> Expr -> PM PV
 ex : LE -> List Sf -> q4 -> Option (Except Exn j6 × LE × q4)
 call : PE -> List PV -> Loc -> PM PV
noncomputable def xz (c : Nat) : Bool := [32, 40, 41, 60, 62, 64, 44, 59, 58, 92, 34, 47, 91, 93, 63, 61].contains c
noncomputable def ZD (c : Nat) : Bool := c <= 31 || c == 127
noncomputable def QF (c : Nat) : Bool := (c <= 31 && c != 9) || c == 127
noncomputable def Vj (p : PE) : Option (Nat -> Bool) := if p = 48 then some xz else if p = 53 then some ZD else if p = 58 then some QF else none
noncomputable def Gi (p : PV) : Bool := ((WQ p).bind Vj).isSome
noncomputable def vm (a v : PV) : PM Bool := fun μ => ((WQ a).bind Vj).bind fun f => (qx v).bind fun x => pret (x.cps.toList.any f) μ
noncomputable def tru (c : PV) : PM Bool := fun μ => (Id μ c).map fun t => (.ok t, μ)
noncomputable def Xd : UY -> Bool
 | .And => true
 | .Or => false
noncomputable def Dj : Uv -> Bool
 | .In => true
 | _ => false
section
variable (ft : FT) (r : Ev)
noncomputable def evL (σ : LE) : List Expr -> PM (List PV)
 | [] => pret []
 | e :: es => fun μ => qa (r.ev σ e μ) fun v μ => qa (evL σ es μ) fun vs => pret (v :: vs)
noncomputable def IX (σ : LE) (l : Expr) (ops : List Uv) (xs : List Expr) : PM Bool := fun μ => match ops, xs with
 | [op], [x] => if yt x then none else qa (r.ev σ l μ) fun a μ => qa (r.ev σ x μ) fun b μ => qa (qY op a b μ) tru
 | _, _ => none
noncomputable def Wm (σ : LE) (f : Expr) (args : List Expr) (kws : List SE) (pos : Pos) : PM Bool := fun μ => (vQ f).bind fun a => match args with
 | [e] => if a.2.1 == ("search" : Str) && kws.isEmpty && qT a.1 && a.2.2.endLine == pos.line && !qf e then qa (r.ev σ a.1 μ) fun p μ => if Gi p then qa (r.ev σ e μ) fun v => vm p v else none else none
 | _ => none
mutual
noncomputable def xj (σ : LE) : Expr -> PM Bool
 | .UnaryOp op x _ => match op with
   | .Not => fun μ => qa (xj σ x μ) fun b => pret (!b)
   | _ => fun zz => none
 | .BoolOp op es _ => evTests σ (Xd op) es
 | .Compare l ops xs _ => IX r σ l ops xs
 | .Call f args kws pos => Wm r σ f args kws pos
 | .Name x p => fun μ => qa (r.ev σ (.Name x p) μ) tru
 | .Constant x k p => fun μ => qa (r.ev σ (.Constant x k p) μ) tru
 | _ => fun zz => none
noncomputable def evTests (σ : LE) (t : Bool) : List Expr -> PM Bool
 | [] => pret t
 | e :: es => fun μ => qa (xj σ e μ) fun b => if b == t then evTests σ t es else pret b
end
noncomputable def vJ (σ : LE) : List Expr -> List PV -> Option LE
 | [], vs => if vs.isEmpty then some σ else none
 | t :: ts, vs => match vs with
   | v :: vs => (qW t).bind fun x => (σ.put x v).bind fun σ' => vJ σ' ts vs
   | [] => none
noncomputable def qu (σ : LE) (t : Expr) (v : PV) : Option LE := by
 induction t using PC with
 | Name x _ => exact σ.put x v
 | Tuple ts _ _ => exact (wB v).bind fun l => vJ σ ts l
 | _ => exact none
set_option genCtorIdx true in
inductive Src where
 | list (n : Nat)
 | str (x : Str)
 | enum (n : Nat)
noncomputable def xo : Src -> Nat -> q4 -> Option (Option PV)
 | .list n, i, μ => (q5 μ n).map fun l => l[i]?
 | .str x, i, _ => some ((x.cps[i]?).map fun c => .str ⟨#[c]⟩)
 | .enum n, i, μ => (q5 μ n).map fun l => (l[i]?).map fun v => .tup [.int i, v]
noncomputable def zY (v : PV) (μ : q4) : Option (Src × Nat) := match qx v with
 | some x => some (.str x, x.length + 1)
 | none => (jq v).bind fun n => (q5 μ n).map fun l => (.list n, l.length + 1)
noncomputable def zW (σ : LE) (ifs : List Expr) : PM Bool := match ifs with
 | [] => pret true
 | c :: cs => if cs.isEmpty then xj r σ c else fun zz => none
noncomputable def zV (src : Src) (target : Expr) (ifs : List Expr) (elt : Expr) : Nat -> Nat -> LE -> PM (List PV)
 | 0, _, _ => fun zz => none
 | k + 1, i, σ => fun μ => (xo src i μ).bind fun o => match o with
   | none => some (.ok [], μ)
   | some v => (qu σ target v).bind fun σ' => qa (zW r σ' ifs μ) fun b μ =>
      if b then qa (r.ev σ' elt μ) fun y μ => qa (zV src target ifs elt k (i + 1) σ' μ) fun ys => pret (y :: ys)
      else zV src target ifs elt k (i + 1) σ' μ
noncomputable def vO (σ : LE) (sc : Un) : Bool := sc.kind == .function && decide ((sc.names.map (·.1)).Nodup) && sc.names.all fun nk => !(nk.2 == .free) || σ.sc.lookup nk.1 == some .cell
noncomputable def vP (e : Expr) : List Str := by
 induction e using PC with
 | Name x _ => exact [x]
 | Tuple ts _ _ => exact ts.filterMap qW
 | _ => exact []
noncomputable def jC (t : Expr) : Bool := zu t || (qW t).isSome
noncomputable def BS (target : Expr) (sc : Un) : Bool := jC target && (vP target).all fun x => !(sc.names.lookup x == some .free)
noncomputable def qF (σ : LE) (elt target : Expr) (ifs : List Expr) (sk : Src × Nat) : PM PV := fun μ => match zV r sk.1 target ifs elt sk.2 0 σ μ with
 | some (.ok ys, μ') => jr ys μ'
 | _ => none
noncomputable def vt (σ : LE) (target iter : Expr) : PM (Src × Nat) := fun μ => match (yf iter).filter (fun q => q.1 == ("enumerate" : Str)) with
 | some q => if σ.isG q.1 && !qf q.2 && zu target then qa (r.ev σ q.2 μ) fun v μ => (jq v).bind fun n => (q5 μ n).map fun l => (.ok (.enum n, l.length + 1), μ) else none
 | none => qa (r.ev σ iter μ) fun v μ => (zY v μ).map fun q => (.ok q, μ)
noncomputable def YM (σ : LE) (elt target iter : Expr) (ifs : List Expr) (sc : Un) : PM PV := fun μ =>
 if yt iter || !vO σ sc || !BS target sc then none else qa (vt r σ target iter μ) fun q => qF r (σ.comp sc.names) elt target ifs q
noncomputable def YH : List (Str × (Str -> Str)) := [("lower", Pt), ("upper", Tl), ("swapcase", Sk), ("strip", RT)]
noncomputable def ES (x : Str) (v : PV) : PM PV := fun μ => (j3 μ v).bind fun l => (vN l).bind fun ts => if Ur x ts && decide ((PW x ts).length <= Pr) then pret (.str (PW x ts)) μ else none
noncomputable def y6 (n : Nat) (v : PV) : PM PV := fun μ => (q5 μ n).bind fun l => if l.length + 1 <= Pr then some (.ok .none, qj μ n (.list (l ++ [v]))) else none
noncomputable def JL (n : Nat) (v : PV) : PM PV := fun μ => (q5 μ n).bind fun l => (jq v).bind fun m => if n = m then none else (q5 μ m).bind fun k => if l.length + k.length <= Pr then some (.ok .none, qj μ n (.list (l ++ k))) else none
noncomputable def j0 (a : PV) (name : Str) (args : List PV) : PM PV := fun μ => match qx a with
 | some x => if args.isEmpty then (YH.lookup name).bind fun f => yx (f x) μ else (one args).bind fun v => if name == ("join" : Str) then ES x v μ else none
 | none => (jq a).bind fun n => (one args).bind fun v => if name == ("append" : Str) then y6 n v μ else if name == ("extend" : Str) then JL n v μ else none
noncomputable def Ep : Um -> Option Str
 | .str x => some x
 | _ => none
noncomputable def CR : Um -> Option Int
 | .int x => some x
 | _ => none
noncomputable def jW (x : Str) (name : Str) (args : List Um) : PM PV := fun μ => match args with
 | [] => none
 | c :: cs => (Ep c).bind fun y => if y.length = 0 || 1000 < y.length || 16000000 < x.length then none else match cs with
   | [] => if name == ("split" : Str) then jr ((SF x y).map .str) μ else if name == ("rstrip" : Str) then pret (.str (Ar x y)) μ else none
   | d :: ds => if !ds.isEmpty then none else match CR d with
     | some k => if name == ("split" : Str) && decide (k = 1) then jr ((TA x y 1).map .str) μ else none
     | none => (Ep d).bind fun z => if name == ("replace" : Str) && !(y == z) && decide (y.length = 1) && decide (z.length <= 14) && decide (x.length <= 1048576) then pret (.str (SA x y z)) μ else none
noncomputable def jp : List Expr -> Option (List Um)
 | [] => some []
 | e :: r => (vg e).bind fun c => (jp r).map fun cs => c :: cs
noncomputable def vI : List (Str × String) := [("lower", "str.lower"), ("upper", "str.upper"), ("swapcase", "str.swapcase"), ("strip", "str.strip"), ("join", "str.join"), ("replace", "str.replace"), ("split", "str.split"), ("rstrip", "str.rstrip")]
noncomputable def gJ : List (Str × String) := [("append", "list.append"), ("extend", "list.extend")]
noncomputable def Jd (p : PV) (name : Str) : Option String := match qx p with
 | some _ => vI.lookup name
 | none => (jq p).bind fun zz => gJ.lookup name
noncomputable def qn (μ : q4) (d : Nat) (name : Str) : Bool := (qe μ d).any fun l => l.all fun kv => !(kv.1 == name)
noncomputable def gu (f : PE) (vs : List PV) (n : Nat) (dv : PV) : PM PV := fun μ => (jq dv).bind fun m => if m = n then none else (qe μ n).bind fun l => (qe μ m).bind fun l' => if l.isEmpty then (one l').bind fun kv => r.call f vs [kv] (qj μ n (.dict [kv])) else none
noncomputable def NM (σ : LE) (f : PE) (a : PV) (args : List Expr) (kws : List SE) : PM PV := match kws with
 | [] => fun μ => qa (evL r σ args μ) fun vs => r.call f (a :: vs) []
 | k :: ks => fun μ => if !ks.isEmpty then none else qa (evL r σ args μ) fun vs μ => match k.arg with
   | some x => qa (r.ev σ k.value μ) fun v => r.call f (a :: vs) [(x, v)]
   | none => qa (r.ev σ k.value (μ ++ [.dict []])) fun dv => gu r f (a :: vs) μ.length dv
noncomputable def V8 (σ : LE) (a : PV) (name : Str) (args : List Expr) : PM PV := fun μ => match qx a with
 | some x => (match jp args with
   | some cs => if cs.isEmpty then j0 a name [] μ else jW x name cs μ
   | none => qa (evL r σ args μ) fun vs => j0 a name vs)
 | none => (j3 μ a).bind fun zz => qa (evL r σ args μ) fun vs => j0 a name vs
noncomputable def Jb (σ : LE) (o : Expr) (name : Str) (apos pos : Pos) (args : List Expr) (kws : List SE) : PM PV := fun μ =>
 if qT o && apos.endLine == pos.line && args.all (!qf ·) && decide (args.length < 10) then qa (r.ev σ o μ) fun a μ => match qw μ a with
  | some d => if qn μ d name then (vA.lookup name).bind fun f => NM r σ f a args kws μ else none
  | none => if kws.isEmpty && (Jd a name).isSome then V8 r σ a name args μ else none
 else none
noncomputable def GH (v : PV) : PM PV := fun μ => match qx v with
 | some x => pret (.int x.length) μ
 | none => (j3 μ v).bind fun l => pret (.int l.length) μ
noncomputable def ZF (v : PV) : PM PV := fun μ => match qx v with
 | some _ => pret (.val (.type "str")) μ
 | none => (j3 μ v).bind fun zz => pret (.val (.type "list")) μ
noncomputable def HN (v : PV) : PM PV := fun μ => (qx v).bind fun x => if x.length = 1 then pret (.int (x.cps.getD 0 0)) μ else none
noncomputable def L1 (v : PV) : PM PV := fun μ => (zx v).bind fun i => if 0 <= i /\ i < 1000 then pret (.str ⟨#[i.toNat]⟩) μ else none
noncomputable def EG (v : PV) : PM PV := fun μ => (qw μ v).bind fun zz => qa (r.call 163 [v] [] μ) fun v => if zB v then pret v else fun zz => none
noncomputable def pB1 (f : Str) : Option (PV -> PM PV) :=
 if f == ("len" : Str) then some GH else if f == ("type" : Str) then some ZF else if f == ("ord" : Str) then some HN else if f == ("chr" : Str) then some L1 else if f == ("str" : Str) then some (EG r) else none
noncomputable def ZA : PE := 81
noncomputable def We : PV -> Bool
 | .none => true
 | _ => false
noncomputable def J7 (vs : List PV) : PM PV := fun μ => qa (r.call ZA (.loc (μ.length + 1) :: vs) [] (μ ++ [.dict [], .inst μ.length])) fun v => if We v then pret (.loc (μ.length + 1)) else fun zz => none
noncomputable def JF (v : PV) : PM PV := fun μ => (jq v).bind fun n => (qe μ n).bind fun l => if l.all fun kv => decide (kv.1.length <= Pr) then jr (l.map fun kv => .tup [.str kv.1, kv.2]) μ else none
noncomputable def Ju (σ : LE) (args : List Expr) : PM PV := fun μ => (one args).bind fun e => (xB e).bind fun q => if q.2.1 == ("items" : Str) && qT q.1 && q.2.2.1.endLine == q.2.2.2.line then qa (r.ev σ q.1 μ) JF else none
noncomputable def JX (σ : LE) (f : Str) (args : List Expr) : PM PV := fun μ => if σ.isG f && args.all (!qf ·) && decide (args.length < 10) then match fns.lookup f with
 | some a => qa (evL r σ args μ) fun vs => r.call a vs []
 | none => if f == ("Headers" : Str) then qa (evL r σ args μ) (J7 r) else if f == ("list" : Str) then Ju r σ args μ
   else (pB1 r f).bind fun g => qa (evL r σ args μ) fun vs μ => (one vs).bind fun v => g v μ
 else none
noncomputable def WF (σ : LE) : Option Expr -> PM (Option PV)
 | none => pret none
 | some e => fun μ => qa (r.ev σ e μ) fun v => pret (some v)
noncomputable def gh (σ : LE) : List (Option Expr) -> List Expr -> PM (Loc)
 | [], vs => if vs.isEmpty then pret [] else fun zz => none
 | k :: ks, vs => fun μ => k.bind fun k => match vs with
   | v :: vs => qa (r.ev σ k μ) fun a μ => qa (r.ev σ v μ) fun b μ => qa (gh σ ks vs μ) fun l μ => (qx a).bind fun x => some (.ok ((x, b) :: l), μ)
   | [] => none
noncomputable def QX (e : Expr) : Option Str := (vg e).bind Ep
noncomputable def Gg (e : Expr) : Option Expr := by
 induction e using PC with
 | FormattedValue e c s _ => exact if c = 115 /\ s.isNone then some e else none
 | _ => exact none
noncomputable def VI (out x : Str) : Option Str := if out.length + x.length <= Pr then some (out ++ x) else none
noncomputable def zR (σ : LE) (out : Str) : List Expr -> PM PV
 | [] => yx out
 | e :: es => match QX e with
   | some x => fun μ => (VI out x).bind fun out => zR σ out es μ
   | none => fun μ => (Gg e).bind fun e => qa (r.ev σ e μ) fun v μ => (qx v).bind fun x => (VI out x).bind fun out => zR σ out es μ
noncomputable def fc (σ : LE) (x : Str) : PM PV := fun μ => if x == ("__debug__" : Str) then pret (.bool true) μ else match σ.get x with
 | some p => pret p μ
 | none => if σ.isG x then (EW.lookup x).map fun p => (.ok p, μ) else none
noncomputable def KM (σ : LE) (es : List Expr) : PM PV := fun μ => if es.any qf then none else qa (evL r σ es μ) fun vs μ => if vs.length <= Pr then pret (.tup vs) μ else none
noncomputable def EZ (σ : LE) (es : List Expr) : PM PV := fun μ => if es.any qf then none else qa (evL r σ es μ) jr
noncomputable def BA (σ : LE) (ks : List (Option Expr)) (vs : List Expr) : PM PV := fun μ => if ks.length < 10 /\ ks.length = vs.length /\ ks.all (·.isSome) = true then
 qa (gh r σ ks vs (μ ++ [.dict []])) fun l μ₁ => if (l.map (·.1)).Nodup /\ (qe μ₁ μ.length).any (·.isEmpty) = true then some (.ok (.loc μ.length), qj μ₁ μ.length (.dict l)) else none else none
noncomputable def eUn (op : ag) (x : Expr) : PM PV := fun μ => match op with
 | .USub => ((vg x).bind CR).bind fun i => pret (.int (-i)) μ
 | _ => none
noncomputable def GQ (σ : LE) (op : UY) (es : List Expr) : PM PV := fun μ => if Xd op then none else (two es).bind fun q => qa (r.ev σ q.1 μ) fun a μ => qa (tru a μ) fun t => if t then pret a else r.ev σ q.2
noncomputable def WU (op : Uv) (a b : PV) : PM PV := fun μ => match if Dj op && zB a then qw μ b else none with
 | some _ => qa (r.call 121 [b, a] [] μ) fun c μ => qa (tru c μ) fun t => pret (.bool t)
 | none => qY op a b μ
noncomputable def M1 (σ : LE) (l : Expr) (ops : List Uv) (xs : List Expr) : PM PV := fun μ => match ops, xs with
 | [op], [x] => if yt x then none else qa (r.ev σ l μ) fun a μ => qa (r.ev σ x μ) fun b => WU r op a b
 | _, _ => none
noncomputable def YP (σ : LE) (v : Expr) (lo hi st : Option Expr) : PM PV := fun μ => if st.isNone then qa (r.ev σ v μ) fun a μ => qa (WF r σ lo μ) fun l μ => qa (WF r σ hi μ) fun h => wM a l h else none
noncomputable def L0 (σ : LE) (v i : Expr) : PM PV := match i with
 | .Slice lo hi st _ => YP r σ v lo hi st
 | i => fun μ => qa (r.ev σ v μ) fun a μ => qa (r.ev σ i μ) fun b => za a b
noncomputable def GC (σ : LE) (o : Expr) (name : Str) : PM PV := fun μ => if qT o && name == ("_headers" : Str) then qa (r.ev σ o μ) fun a μ => (qw μ a).bind fun d => (qe μ d).bind fun l => (x9 l name).bind fun v => if WG v then none else some (.ok v, μ) else none
noncomputable def Hh (σ : LE) (f : Expr) (args : List Expr) (kws : List SE) (pos : Pos) : PM PV := by
 induction f using PC with
 | Attribute o name apos => exact Jb r σ o name apos pos args kws
 | Name f _ => exact if kws.isEmpty then JX r σ f args else fun zz => none
 | _ => exact (fun zz => none)
noncomputable def eLC (σ : LE) (elt : Expr) (gens : List TR) (sc : Un) : PM PV := fun μ => (one gens).bind fun g => if g.is_async = 0 then YM r σ elt g.target g.iter g.ifs sc μ else none
noncomputable def Jl (σ : LE) (e : Expr) : PM PV := by
 induction e using PC with
 | BoolOp op es _ => exact GQ r σ op es
 | BinOp l op x _ => exact fun μ => qa (r.ev σ l μ) fun a μ => qa (r.ev σ x μ) fun b => kK op a b
 | UnaryOp op x _ => exact eUn op x
 | IfExp t b o _ => exact fun μ => qa (xj r σ t μ) fun c => if c then r.ev σ b else r.ev σ o
 | Dict ks vs _ => exact BA r σ ks vs
 | ListComp elt gens sc _ => exact eLC r σ elt gens sc
 | Compare l ops xs _ => exact M1 r σ l ops xs
 | Call f args kws pos => exact Hh r σ f args kws pos
 | JoinedStr es _ => exact if 2 <= es.length then zR r σ PF es else fun zz => none
 | Constant c _ _ => exact fun μ => (wX c).map fun p => (.ok p, μ)
 | Attribute o name _ => exact GC r σ o name
 | Subscript v i _ => exact L0 r σ v i
 | Name x _ => exact fc σ x
 | List es _ => exact EZ r σ es
 | Tuple es _ _ => exact KM r σ es
 | _ => exact (fun zz => none)
noncomputable def Jx (σ : LE) (ts : List Expr) (v : PV) (μ : q4) : Option (Except Exn LE × q4) := match wB v with
 | some l => if l.length = ts.length then (vJ σ ts l).map fun σ' => (.ok σ', μ) else none
 | none => (j3 μ v).bind fun l => if l.length = 1 /\ ts.length = 2 then some (.error wK, μ) else if l.length = ts.length then (vJ σ ts l).map fun σ' => (.ok σ', μ) else none
abbrev SR' := Option (Except Exn j6 × LE × q4)
noncomputable def qC {α : Type} (σ : LE) (m : PR α) (f : α -> q4 -> SR') : SR' := match m with
 | none => none
 | some (.error x, μ) => some (.error x, σ, μ)
 | some (.ok a, μ) => f a μ
noncomputable def zh (σ : LE) (f : j6) (μ : q4) : SR' := some (.ok f, σ, μ)
noncomputable def zQ (src : Src) (target : Expr) (body : List Sf) : Nat -> Nat -> LE -> q4 -> SR'
 | 0, _, _, _ => none
 | k + 1, i, σ, μ => (xo src i μ).bind fun o => match o with
   | none => zh σ .next μ
   | some v => (qu σ target v).bind fun σ' => match r.ex σ' body μ with
      | some (.ok .next, σ₁, μ₁) => zQ src target body k (i + 1) σ₁ μ₁
      | some (.ok .cont, σ₁, μ₁) => zQ src target body k (i + 1) σ₁ μ₁
      | some (.ok .brk, _, _) => none
      | o => o
noncomputable def QP (c : Str) (x : Exn) : Bool := (c == ("ValueError" : Str) || c == ("IndexError" : Str)) && (x.cls == "ValueError" || x.cls == "IndexError")
noncomputable def Hq (s : Sf) : Option Expr := by
 induction s using Sy with
 | Return e _ => exact e
 | _ => exact none
noncomputable def Za (b : List Sf) : Option Um := (one b).bind fun s => (Hq s).bind vg
noncomputable def Bk (s : Sf) : Option Expr := by
 induction s using Sy with
 | Expr e _ => exact some e
 | _ => exact none
noncomputable def fQ (b : List Sf) : Option (Str × Str × Pos × Str × Str × Pos) := (one b).bind fun s => (Bk s).bind fun e => (Q3 e).bind fun c => (vQ c.1).bind fun a => (qW a.1).bind fun y =>
 (one c.2.1).bind fun z => (yf z).bind fun q => (qW q.2).bind fun f => if c.2.2.1.isEmpty then some (y, a.2.1, a.2.2, q.1, f, c.2.2.2) else none
noncomputable def Lb (σ : LE) (x : Exn) (c f : Str) (q : Str × Str × Pos × Str × Str × Pos) (μ : q4) : SR' :=
 if QP c x && c == (x.cls : Str) && σ.isG c && σ.isG q.2.2.2.1 && σ.sc.lookup f == some .local && q.2.1 == ("append" : Str) && q.2.2.2.1 == ("str" : Str) && f == q.2.2.2.2.1 && !(f == q.1) && (σ.vs.lookup f).isNone && q.2.2.1.endLine == q.2.2.2.2.2.line && !(f == ("__debug__" : Str)) && !(q.1 == ("__debug__" : Str)) then
  (σ.get q.1).bind fun p => (jq p).bind fun n => x.msg.bind fun t => (q5 μ n).bind fun l => if l.length + 1 <= Pr /\ t.length <= Pr then zh σ .next (qj μ n (.list (l ++ [.str t]))) else none
 else none
noncomputable def yT (σ : LE) (x : Exn) : List Tn -> q4 -> SR'
 | [], _ => none
 | .ExceptHandler t f b _ :: rest, μ => (t.bind qW).bind fun c => match f with
   | none => (Za b).bind fun k => if σ.isG c && QP c x then (if c == (x.cls : Str) then (wX k).bind fun p => zh σ (.ret p) μ else yT σ x rest μ) else none
   | some f => (fQ b).bind fun q => Lb σ x c f q μ
noncomputable def kZ (σ : LE) (x : Str) (v : PV) (μ : q4) : SR' := (σ.put x v).bind fun σ' => zh σ' .next μ
noncomputable def Bc (σ : LE) (ts es : List Expr) (μ : q4) : SR' := (two ts).bind fun t => (two es).bind fun q => (wh t.1).bind fun x => (wh t.2).bind fun y =>
 if σ.sc.lookup x.1 == some .local && σ.sc.lookup y.1 == some .local && x.2.line == y.2.line && !(x.1 == y.1) && !(es.all (aD 8)) && !(es.all (AI 8)) && !qf q.1 && !qf q.2 then
  qC σ (r.ev σ q.1 μ) fun v μ => qC σ (r.ev σ q.2 μ) fun u μ => (σ.put y.1 u).bind fun σ => kZ σ x.1 v μ
 else none
noncomputable def xv (σ : LE) (ts : List Expr) (v : PV) (μ : q4) : SR' := match Jx σ ts v μ with
 | some (.ok σ', μ) => zh σ' .next μ
 | some (.error x, μ) => some (.error x, σ, μ)
 | none => none
noncomputable def Gf (σ : LE) (ts : List Expr) (e : Expr) (μ : q4) : SR' := match e with
 | .Tuple es _ _ => Bc r σ ts es μ
 | e => if ts.any qf then none else qC σ (r.ev σ e μ) (xv σ ts)
noncomputable def Wl (σ : LE) (y name : Str) (e : Expr) (μ : q4) : SR' := if name == ("_headers" : Str) && !(y == ("__debug__" : Str)) then qC σ (r.ev σ e μ) fun v μ => (σ.get y).bind fun p => (qw μ p).bind fun d => (qe μ d).bind fun l =>
 if l.isEmpty then zh σ .next (qj μ d (.dict [(name, v)])) else none else none
noncomputable def gk (σ : LE) (a v : PV) (μ : q4) : SR' := (jq a).bind fun n => (jq v).bind fun m => (q5 μ n).bind fun l₀ => (q5 μ m).bind fun l => if n = m \/ Pr < l₀.length + l.length then none else zh σ .next (qj μ n (.list l))
noncomputable def Ji (σ : LE) (o e : Expr) (μ : q4) : SR' := qC σ (r.ev σ e μ) fun v μ => qC σ (r.ev σ o μ) fun a => gk σ a v
noncomputable def BT (σ : LE) (a k v : PV) (μ : q4) : SR' := (qx k).bind fun x => match qw μ a with
 | some _ => qC σ (r.call 102 [a, k, v] [] μ) fun zz => zh σ .next
 | none => (jq a).bind fun n => (qe μ n).bind fun l => if l.length + 1 <= Pr then zh σ .next (qj μ n (.dict (qR l x v))) else none
noncomputable def FS (σ : LE) (o i e : Expr) (μ : q4) : SR' := qC σ (r.ev σ e μ) fun v μ => qC σ (r.ev σ o μ) fun a μ => qC σ (r.ev σ i μ) fun k => BT r σ a k v
noncomputable def Ob (σ : LE) (o i e : Expr) (μ : q4) : SR' := match i with
 | .Slice lo hi st _ => if lo.isNone && hi.isNone && st.isNone then Ji r σ o e μ else none
 | i => FS r σ o i e μ
noncomputable def Xb (σ : LE) (t e : Expr) (μ : q4) : SR' := by
 induction t using PC with
 | Attribute o name _ => exact (qW o).bind fun y => Wl r σ y name e μ
 | Subscript o i _ => exact Ob r σ o i e μ
 | Name x _ => exact if g0 e then none else qC σ (r.ev σ e μ) (kZ σ x)
 | Tuple ts _ _ => exact Gf r σ ts e μ
 | _ => exact none
noncomputable def HF (σ : LE) (ts : List Expr) (e : Expr) (μ : q4) : SR' := match ts with
 | [] => none
 | t :: ts => (match ts with
   | [] => Xb r σ t e μ
   | u :: us => if us.isEmpty then (qW t).bind fun x => (qW u).bind fun y => qC σ (r.ev σ e μ) fun v μ => (σ.put x v).bind fun σ => kZ σ y v μ else none)
noncomputable def EO (σ : LE) (a k : PV) (μ : q4) : SR' := (qw μ a).bind fun zz => if zB k then qC σ (r.call 107 [a, k] [] μ) fun zz => zh σ .next else none
noncomputable def Lx (σ : LE) (ts : List Expr) (μ : q4) : SR' := (one ts).bind fun t => by
 induction t using PC with
 | Subscript o i _ => exact qC σ (r.ev σ o μ) fun a μ => qC σ (r.ev σ i μ) fun k => EO r σ a k
 | _ => exact none
noncomputable def EE : AH -> Bool
 | .Add => true
 | _ => false
noncomputable def NH (σ : LE) (t : Expr) (op : AH) (e : Expr) (μ : q4) : SR' := (qW t).bind fun x => (σ.get x).bind fun old => qC σ (r.ev σ e μ) fun v μ => if EE op then (qx old).bind fun a => (qx v).bind fun b => qC σ (yx (a ++ b) μ) (kZ σ x) else none
noncomputable def y8 (σ : LE) (target : Expr) (body : List Sf) (v : PV) (μ : q4) : SR' := (jq v).bind fun n => (zi μ n).bind fun l => match l with
 | [] => zh σ .next μ
 | kp :: l => if l.isEmpty && decide (kp.1.length <= Pr) then (qu σ target (.tup [.str kp.1, kp.2])).bind fun σ' => match r.ex σ' body μ with
    | some (.ok .next, σ₁, μ₁) => ((zi μ₁ n).bind one).bind fun zz => zh σ₁ .next μ₁
    | some (.error x, σ₁, μ₁) => some (.error x, σ₁, μ₁)
    | _ => none
   else none
noncomputable def F7 (σ : LE) (target iter : Expr) (body : List Sf) (μ : q4) : SR' := match xB iter with
 | some q => if q.2.1 == ("items" : Str) && qT q.1 && q.2.2.1.endLine == q.2.2.2.line && zu target then qC σ (r.ev σ q.1 μ) (y8 r σ target body) else none
 | none => if yt iter || !jC target then none else qC σ (r.ev σ iter μ) fun v μ => (zY v μ).bind fun q => zQ r q.1 target body q.2 0 σ μ
noncomputable def GJ (e : Expr) : Option (Str × Str) := (yf e).bind fun q => (QX q.2).bind fun m => some (q.1, m)
noncomputable def Y8 (σ : LE) (e c : Option Expr) (μ : q4) : SR' := if c.isNone then (e.bind GJ).bind fun q => if q.1 == ("ValueError" : Str) && σ.isG q.1 then some (.error { cls := "ValueError", msg := some q.2, here := true }, σ, μ) else none else none
noncomputable def Kc (σ : LE) (body : List Sf) (hs : List Tn) (μ : q4) : SR' := match r.ex σ body μ with
 | some (.error x, σ₁, μ₁) => if x.here then none else yT σ₁ x hs μ₁
 | o => o
noncomputable def wT (σ : LE) (st : Sf) (μ : q4) : SR' := by
 induction st using Sy with
 | Return e _ => exact e.bind fun e => qC σ (r.ev σ e μ) fun v => zh σ (.ret v)
 | Delete ts _ => exact Lx r σ ts μ
 | Assign ts e _ => exact HF r σ ts e μ
 | AugAssign t op e _ => exact NH r σ t op e μ
 | For target iter body o _ => exact if o.isEmpty then F7 r σ target iter body μ else none
 | If t b o _ => exact qC σ (xj r σ t μ) fun c μ => if c then r.ex σ b μ else r.ex σ o μ
 | Raise e c _ => exact Y8 σ e c μ
 | Try body hs o f _ => exact if !hs.isEmpty && o.isEmpty && f.isEmpty then Kc r σ body hs μ else none
 | Expr e _ => exact if JE e then none else qC σ (r.ev σ e μ) fun v μ => if vj v then zh σ .next μ else none
 | Continue => exact zh σ .cont μ
 | _ => exact none
noncomputable def zo (σ : LE) : List Sf -> q4 -> SR'
 | [], μ => zh σ .next μ
 | st :: rest, μ => match wT r σ st μ with
   | some (.ok .next, σ₁, μ₁) => zo σ₁ rest μ₁
   | o => o
noncomputable def yi : List Str := ["k", "K", "a_b\\"]
noncomputable def jB (a : PE) (f : Fn) (vs : List PV) (kw : Loc) (μ : q4) : Option (LE × q4) :=
 if f.names.length < vs.length || (Ql a).length < f.names.length - vs.length then none else
  let pos := f.names.zip (vs ++ (Ql a).drop ((Ql a).length - (f.names.length - vs.length)))
  match f.kwarg with
  | some x => if f.kwonly.isEmpty && kw.length <= 1 && kw.all (fun kv => yi.contains kv.1) then some (⟨f.sc, pos ++ [(x, .loc μ.length)]⟩, μ ++ [.kw kw]) else none
  | none => (match f.kwonly with
    | [] => if kw.isEmpty then some (⟨f.sc, pos⟩, μ) else none
    | k :: ks => if ks.isEmpty then (one kw).bind fun q => if k == q.1 then some (⟨f.sc, pos ++ [(k, q.2)]⟩, μ) else none else none)
noncomputable def zX (m : SR') : PR PV := m.bind fun q => match q.1 with
 | .ok f => (match f with
   | .ret p => some (.ok p, q.2.2)
   | .next => some (.ok .none, q.2.2)
   | _ => none)
 | .error x => some (.error { x with here := false }, q.2.2)
noncomputable def yq (a : PE) (vs : List PV) (kw : Loc) : PM PV := fun μ => (ft a).bind fun f => (jB a f vs kw μ).bind fun b => zX (r.ex b.1 f.body b.2)
end
noncomputable def Ff (ft : FT) (r : Ev) : Ev := { ev := Jl r, ex := zo r, call := yq ft r }
noncomputable def evN (ft : FT) : Nat -> Ev
 | 0 => { ev := fun zz zz zz => none, ex := fun zz zz zz => none, call := fun zz zz zz zz => none }
 | n + 1 => Ff ft (evN ft n)
theorem no {α : Type} {a : α} {p : Prop} (h : (none : Option α) = some a) : p := nomatch h
theorem noB {p : Prop} (h : false = true) : p := nomatch h
theorem bnd {α β : Type} {o : Option α} {f : α -> Option β} {y : β} (h : o.bind f = some y) : ∃ x, o = some x /\ f x = some y := Option.bind_eq_some_iff.mp h
theorem mp' {α β : Type} {o : Option α} {f : α -> β} {y : β} (h : o.map f = some y) : ∃ x, o = some x /\ some (f x) = some y := let ⟨x, a, b⟩ := Sv.mp h; ⟨x, a, congrArg some b⟩
theorem ifT {α : Type} {c : Prop} [Decidable c] {x : Option α} {y : α} (h : (if c then x else none) = some y) : c /\ x = some y := by
 by_cases hc : c
 ·exact ⟨hc, by rwa [if_pos hc] at h⟩
 ·rw [if_neg hc] at h; exact no h
theorem ifF {α : Type} {c : Prop} [Decidable c] {x : Option α} {y : α} (h : (if c then none else x) = some y) : ¬ c /\ x = some y := by
 by_cases hc : c
 ·rw [if_pos hc] at h; exact no h
 ·exact ⟨hc, by rwa [if_neg hc] at h⟩
theorem ifB {α : Type} {b : Bool} {x : Option α} {y : α} (h : (if b = true then none else x) = some y) : b = false /\ x = some y := by
 cases b
 ·exact ⟨rfl, h⟩
 ·exact no h
theorem bK {α β : Type} {o : Option α} {f : α -> Option β} {y : β} {G : Prop} (h : o.bind f = some y) (k : ∀ x, o = some x -> f x = some y -> G) : G := let ⟨x, a, b⟩ := bnd h; k x a b
theorem mK {α β : Type} {o : Option α} {f : α -> β} {y : β} {G : Prop} (h : o.map f = some y) (k : ∀ x, o = some x -> some (f x) = some y -> G) : G := let ⟨x, a, b⟩ := mp' h; k x a b
theorem iT {α : Type} {c : Prop} [Decidable c] {x : Option α} {y : α} {G : Prop} (h : (if c then x else none) = some y) (k : c -> x = some y -> G) : G := let ⟨a, b⟩ := ifT h; k a b
theorem iB {α : Type} {b : Bool} {x : Option α} {y : α} {G : Prop} (h : (if b = true then none else x) = some y) (k : b = false -> x = some y -> G) : G := let ⟨a, b⟩ := ifB h; k a b
theorem qk {α : Type} {a b : α} (h : some a = some b) : a = b := by cases h; rfl
theorem wU {α β : Type} {a a' : α} {b b' : β} (h : some (a, b) = some (a', b')) : a' = a /\ b' = b := ⟨(congrArg RN (qk h)).symm, (congrArg Rh (qk h)).symm⟩
theorem NK {α β γ : Type} {a a' : α} {b b' : β} {c c' : γ} (h : some (a, b, c) = some (a', b', c')) : a' = a /\ b' = b /\ c' = c := ⟨(congrArg RN (qk h)).symm, wU (congrArg some (congrArg Rh (qk h)))⟩
theorem fin {α : Type} {o : Option α} {P : α -> Prop} {q : α} (h : o.elim True P) (e : o = some q) : P q := (e ▸ h : (some q).elim True P)
theorem P0 {b : Bool} {P : Prop} (h : b = true /\ P \/ b = false) (e : b = true) : P := h.elim (·.2) fun q => nomatch e.symm.trans q
theorem OW {α : Type} {c : Prop} [Decidable c] {x : α} {P : α -> Prop} (h : c -> P x) : (if c then some x else none : Option α).elim True P := by
 by_cases hc : c
 ·rw [if_pos hc]; exact h hc
 ·rw [if_neg hc]; exact trivial
theorem an {a b : Bool} (h : (a && b) = true) : a = true /\ b = true := by induction a <;> induction b <;> first | exact ⟨rfl, rfl⟩ | exact noB h
theorem orF {a b : Bool} (h : (a || b) = false) : a = false /\ b = false := by induction a <;> induction b <;> first | exact ⟨rfl, rfl⟩ | cases h
theorem nt {a : Bool} (h : (!a) = true) : a = false := by induction a <;> first | rfl | cases h
theorem qb {x y : Str} (h : (x == y) = true) : x = y := eq_of_beq h
theorem GG : Pr = 16777216 := by decide
theorem vM {p : PV} {x : Str} (h : qx p = some x) : p = .str x := by induction p using PV.casesOn <;> first | exact no h | exact congrArg _ (qk h)
theorem K7 {p : PV} {x : Int} (h : zx p = some x) : p = .int x := by induction p using PV.casesOn <;> first | exact no h | exact congrArg _ (qk h)
theorem jJ {p : PV} {x : Nat} (h : jq p = some x) : p = .loc x := by induction p using PV.casesOn <;> first | exact no h | exact congrArg _ (qk h)
theorem QM {p : PV} {x : List PV} (h : wB p = some x) : p = .tup x := by induction p using PV.casesOn <;> first | exact no h | exact congrArg _ (qk h)
theorem Gz {p : PV} {x : List Int} (h : DU p = some x) : p = .il x := by induction p using PV.casesOn <;> first | exact no h | exact congrArg _ (qk h)
theorem vU {p : PV} {x : Pu} (h : V1 p = some x) : p = .val x := by induction p using PV.casesOn <;> first | exact no h | exact congrArg _ (qk h)
theorem XV {p : PV} {x : String} (h : fk p = some x) : p = .val (.type x) := by
 obtain ⟨v, h1, h2⟩ := bnd h
 induction v <;> first | exact no h2 | exact (vU h1).trans (congrArg (fun y => PV.val (.type y)) (qk h2))
theorem Vw {p : PV} {x : PE} (h : WQ p = some x) : p = .val (.ref x) := by
 obtain ⟨v, h1, h2⟩ := bnd h
 induction v <;> first | exact no h2 | exact (vU h1).trans (congrArg (fun y => PV.val (.ref y)) (qk h2))
section
variable {hT : PP} {ρ : List PE} {h : PP} {v : Pu} {p : PV}
def RvI (hT : PP) (ρ : List PE) (h : PP) (v : Pu) (p : PV) : Prop := match p with
 | .none => v = .none
 | .bool b => v = .bool b
 | .int i => ∃ t, v = .int i t
 | .str x => ∃ t, v = .str x t /\ x.length <= Pr
 | .tup l => ∃ a vs, v = .ref a /\ h.IsTuple a vs.toArray /\ RvL hT ρ h vs l
 | .loc n => ∃ a, v = .ref a /\ ρ[n]? = some a
 | .val u => v = u
 | .il l => ∃ a vs, v = .ref a /\ hT.IsList a vs.toArray /\ bU vs l
theorem Rv.inv (r : Rv hT ρ h v p) : RvI hT ρ h v p := by
 cases r with
 | none => exact rfl
 | bool b => exact rfl
 | int i t => exact ⟨t, rfl⟩
 | str x t hx => exact ⟨t, rfl, hx⟩
 | tup a b => exact ⟨_, _, rfl, a, b⟩
 | loc hn => exact ⟨_, rfl, hn⟩
 | val u => exact rfl
 | il a b => exact ⟨_, _, rfl, a, b⟩
theorem Rv.sI {x : Str} (r : Rv hT ρ h v p) (e : qx p = some x) : ∃ t, v = .str x t /\ x.length <= Pr := by have := vM e; subst this; exact r.inv
theorem Rv.iI {x : Int} (r : Rv hT ρ h v p) (e : zx p = some x) : ∃ t, v = .int x t := by have := K7 e; subst this; exact r.inv
theorem Rv.lI {n : Nat} (r : Rv hT ρ h v p) (e : jq p = some n) : ∃ a, v = .ref a /\ ρ[n]? = some a := by have := jJ e; subst this; exact r.inv
theorem Rv.tI {l : List PV} (r : Rv hT ρ h v p) (e : wB p = some l) : ∃ a vs, v = .ref a /\ h.IsTuple a vs.toArray /\ RvL hT ρ h vs l := by have := QM e; subst this; exact r.inv
theorem Rv.ilI {l : List Int} (r : Rv hT ρ h v p) (e : DU p = some l) : ∃ a vs, v = .ref a /\ hT.IsList a vs.toArray /\ bU vs l := by have := Gz e; subst this; exact r.inv
theorem Rv.yI {x : String} (r : Rv hT ρ h v p) (e : fk p = some x) : v = .type x := by have := XV e; subst this; exact r.inv
theorem Rv.rI {x : PE} (r : Rv hT ρ h v p) (e : WQ p = some x) : v = .ref x := by have := Vw e; subst this; exact r.inv
theorem Rv.nI (r : Rv hT ρ h v p) (e : isNone p = some true) : v = .none := by induction p using PV.casesOn <;> first | exact r.inv | exact absurd e (by simp [isNone])
end
theorem Vz {c : q8} {l : List PV} (h : kh c = some l) : c = .list l := by induction c <;> first | exact no h | exact congrArg _ (qk h)
theorem Ku {c : q8} {l : Loc} (h : wx c = some l) : c = .dict l := by induction c <;> first | exact no h | exact congrArg _ (qk h)
theorem Cd {c : q8} {l : Loc} (h : cKw c = some l) : c = .kw l := by induction c <;> first | exact no h | exact congrArg _ (qk h)
theorem Kg {c : q8} {d : Nat} (h : xA c = some d) : c = .inst d := by induction c <;> first | exact no h | exact congrArg _ (qk h)
theorem JG {μ : q4} {n : Nat} {l : List PV} (h : q5 μ n = some l) : μ[n]? = some (.list l) := by
 obtain ⟨c, h1, h2⟩ := bnd h
 rw [h1, Vz h2]
theorem Jt {μ : q4} {n : Nat} {l : Loc} (h : qe μ n = some l) : μ[n]? = some (.dict l) := by
 obtain ⟨c, h1, h2⟩ := bnd h
 rw [h1, Ku h2]
theorem W6 {μ : q4} {n : Nat} {l : Loc} (h : zi μ n = some l) : μ[n]? = some (.kw l) := by
 obtain ⟨c, h1, h2⟩ := bnd h
 rw [h1, Cd h2]
theorem vy {μ : q4} {n : Nat} {l : Nat} (h : zZ μ n = some l) : μ[n]? = some (.inst l) := by
 obtain ⟨c, h1, h2⟩ := bnd h
 rw [h1, Kg h2]
theorem jM {α : Type} {l : List α} {a : α} (h : one l = some a) : l = [a] := by
 induction l using PD with
 | nil => exact no h
 | cons b r =>
   obtain ⟨h1, h2⟩ := ifT h
   rw [Rf.mp h1, qk h2]
theorem gj {α : Type} {l : List α} {q : α × α} (h : two l = some q) : l = [q.1, q.2] := by
 induction l using PD with
 | nil => exact no h
 | cons a r =>
   induction r using PD with
   | nil => exact no h
   | cons b r =>
     obtain ⟨h1, h2⟩ := ifT h
     rw [Rf.mp h1, <- qk h2]
theorem yG {e : Expr} {q : Str × Pos} (h : wh e = some q) : e = .Name q.1 q.2 := fin (P := fun q => e = .Name q.1 q.2) (by clear h; induction e using PC <;> first | exact U0 | exact rfl) h
theorem ja {e : Expr} {x : Str} (h : qW e = some x) : ∃ p, e = .Name x p := by
 obtain ⟨q, h1, h2⟩ := mp' h
 exact ⟨q.2, by rw [<- qk h2]; exact yG h1⟩
theorem xw {e : Expr} {x : Um} (h : vg e = some x) : ∃ k p, e = .Constant x k p := fin (P := fun x => ∃ k p, e = .Constant x k p) (by clear h; induction e using PC <;> first | exact U0 | exact ⟨_, _, rfl⟩) h
theorem wP {e : Expr} {q : Expr × Str × Pos} (h : vQ e = some q) : e = .Attribute q.1 q.2.1 q.2.2 := fin (P := fun q => e = .Attribute q.1 q.2.1 q.2.2) (by clear h; induction e using PC <;> first | exact U0 | exact rfl) h
theorem wF {e : Expr} {q : Expr × List Expr × List SE × Pos} (h : Q3 e = some q) : e = .Call q.1 q.2.1 q.2.2.1 q.2.2.2 := fin (P := fun q => e = .Call q.1 q.2.1 q.2.2.1 q.2.2.2) (by clear h; induction e using PC <;> first | exact U0 | exact rfl) h
theorem xZ {e : Expr} (h : zu e = true) : ∃ ts k p, e = .Tuple ts k p := P0 (by clear h; induction e using PC <;> first | exact .inr (Eq.refl false) | exact .inl ⟨rfl, _, _, _, rfl⟩) h
theorem kJ {e : Expr} {q : Expr × Str × Pos × Pos} (h : xB e = some q) : e = .Call (.Attribute q.1 q.2.1 q.2.2.1) [] [] q.2.2.2 := by
 obtain ⟨c, h1, h⟩ := bnd h
 obtain ⟨a, h2, h⟩ := bnd h
 obtain ⟨h3, h⟩ := ifT h
 rw [wF h1, wP h2, Rf.mp (an h3).1, Rf.mp (an h3).2, <- qk h]
theorem w2 {e : Expr} {q : Str × Expr} (h : yf e = some q) : ∃ p pos, e = .Call (.Name q.1 p) [q.2] [] pos := by
 obtain ⟨c, h1, h⟩ := bnd h
 obtain ⟨f, h2, h⟩ := bnd h
 obtain ⟨x, h3, h⟩ := bnd h
 obtain ⟨h4, h⟩ := ifT h
 obtain ⟨p, h2⟩ := ja h2
 exact ⟨p, c.2.2.2, by rw [wF h1, h2, jM h3, Rf.mp h4, <- qk h]⟩
theorem gR {c : Um} {x : Str} (h : Ep c = some x) : c = .str x := by induction c <;> first | exact no h | exact congrArg _ (qk h)
theorem XK {c : Um} {x : Int} (h : CR c = some x) : c = .int x := by induction c <;> first | exact no h | exact congrArg _ (qk h)
theorem QS {e : Expr} {x : Str} (h : QX e = some x) : ∃ k p, e = .Constant (.str x) k p := by
 obtain ⟨c, h1, h2⟩ := bnd h
 obtain ⟨k, p, h1⟩ := xw h1
 exact ⟨k, p, by rw [h1, gR h2]⟩
theorem VZ {e v : Expr} (h : Gg e = some v) : ∃ p, e = .FormattedValue v 115 none p := fin (P := fun v => ∃ p, e = .FormattedValue v 115 none p) (by
 clear h; induction e using PC <;> first
 | exact U0
 | exact OW fun q => ⟨_, by rw [q.1, TG.mp q.2]⟩) h
theorem xt {o : Option Sm} (h : xy o = true) : o = some .local \/ o = some .cell := by
 induction o with
 | none => exact noB h
 | some k => induction k <;> first | exact noB h | exact .inl rfl | exact .inr rfl
noncomputable abbrev LS : List Str := [Pv "tspecials", Pv "_name_disallowed_re", Pv "_value_disallowed_re", Pv "_formatparam"]
def GF (w : Rk) (hT : PP) : Prop := (KK w).In hT /\ ∃ mean mg mb, Top Mine.hd.view_1 (looseW Mine.hd.view_1 LS) mean mg mb hT
section
variable {w : Rk} {hT : PP} {A : RE} {l : List Env} {env : Env} {σ : LE} {ρ : List PE} {μ : q4} {s : Py} {n : Nat} {Q : Pu -> Py -> Prop} {E : Pu -> Py -> Prop}
theorem qN.kindOf (R : qN hT ρ s.heap env σ) (x : Str) : env.kindOf x = σ.sc.lookup x := congrArg (Sg x) R.names
theorem vF {x : Str} {v : Pu} {pos : Pos} (G : GF w hT) (R : qN hT ρ s.heap env σ) (S : SR w hT ρ μ s.heap) (hg : σ.isG x = true) (e : nsIn (KK w) mainGlobals x = some (some v)) (hd : (x == ("__debug__" : Str)) = false)
 (h : Q v s) : PQ (MM w) A (eval (.Name x pos) env) Q E s := by
 obtain ⟨X, _, mg, mb, T⟩ := G
 exact AJ R.kind ((R.kindOf x).trans (eq_of_beq hg)) (loadGlobal_global (R.glob ▸ T.g.keeps S.top) (mg_of X T.g e) h) hd
theorem zN {x : Str} {v : Pu} {pos : Pos} (G : GF w hT) (R : qN hT ρ s.heap env σ) (S : SR w hT ρ μ s.heap) (hg : σ.isG x = true) (e : nsIn (KK w) mainGlobals x = some none) (hv : Ub x = some v) (hn : x ≠ "__name__")
 (hd : (x == ("__debug__" : Str)) = false) (h : Q v s) : PQ (MM w) A (eval (.Name x pos) env) Q E s := by
 obtain ⟨X, _, mg, mb, T⟩ := G
 exact AJ R.kind ((R.kindOf x).trans (eq_of_beq hg)) (loadGlobal_builtin (R.glob ▸ T.g.keeps S.top) (mg_none_of X T.g e) (R.blt ▸ T.b.keeps S.top) ((T.builtins x hn).trans hv) h) hd
theorem vD {x : Str} {p : PV} {pos : Pos} (R : qN hT ρ s.heap env σ) (hx : σ.get x = some p) (hd : (x == ("__debug__" : Str)) = false)
 (h : ∀ v, Rv hT ρ s.heap v p -> Q v s) : PQ (MM w) A (eval (.Name x pos) env) Q E s := by
 have hk := R.kindOf x
 obtain ⟨hs, hx⟩ := ifT hx
 rcases xt hs with hs | hs
 ·obtain ⟨m, hm, hv⟩ := R.ns
  obtain ⟨v, hv, hr⟩ := hv x p hx hs
  exact wpAny_Name (AK R.kind (hk.trans hs) hm hv (h v hr)) hd
 ·obtain ⟨c, v, h1, h2, h3⟩ := R.cel x p hx hs
  exact wpAny_Name (al R.kind (hk.trans hs) h1 h2 (h v h3)) hd
end
section
variable {w : Rk} {hT : PP} {ρ : List PE} {μ : q4} {h : PP}
theorem SR.listAt (S : SR w hT ρ μ h) {n : Nat} {a : PE} {l : List PV} (hn : ρ[n]? = some a) (hl : q5 μ n = some l) : l.length <= Pr + 1 /\ ∃ vs : List Pu, h.PlainList a vs.toArray /\ RvL hT ρ h vs l := S.cells n a _ hn (JG hl)
theorem SR.dictAt (S : SR w hT ρ μ h) {n : Nat} {a : PE} {l : Loc} (hn : ρ[n]? = some a) (hl : qe μ n = some l) : ∃ kvs : List (Str × Pu), h.DictOf (strKind prog w) a kvs /\ RvD hT ρ h kvs l := S.cells n a _ hn (Jt hl)
theorem RvL.length {vs : List Pu} : ∀ {ps : List PV}, RvL hT ρ h vs ps -> vs.length = ps.length := by
 induction vs with
 | nil => intro ps r; cases r; rfl
 | cons v vs ih => intro ps r; cases r with | cons _ r => exact congrArg (· + 1) (ih r)
theorem PlainList.isList {a : PE} {vs : Array Pu} (x : h.PlainList a vs) : h.IsList a vs := let ⟨n, e⟩ := x; ⟨_, e, rfl, n, rfl⟩
theorem Rv.list {v : Pu} {p : PV} {l : List PV} (r : Rv hT ρ h v p) (S : SR w hT ρ μ h) (e : j3 μ p = some l) : ∃ a n vs, p = .loc n /\ ρ[n]? = some a /\ v = .ref a /\ h.PlainList a vs.toArray /\ RvL hT ρ h vs l /\ vs.length = l.length /\ l.length <= 16777217 := by
 obtain ⟨n, h1, h2⟩ := bnd e
 obtain ⟨a, h3, h4⟩ := r.lI h1
 obtain ⟨h5, vs, h6, h7⟩ := S.listAt h4 h2
 exact ⟨a, n, vs, jJ h1, h4, h3, h6, h7, h7.length, h5⟩
theorem QO {f : PV -> Option Ua} (F : ∀ v p d, Rv hT ρ h v p -> f p = some d -> ∃ as, b4 h v d as) (vs : List Pu) : ∀ {ps : List PV} {ds : List Ua}, RvL hT ρ h vs ps -> jj f ps = some ds -> ∃ as, ReadsAll h vs ds as := by
 induction vs with
 | nil => intro ps ds r e; cases r; exact ⟨[], qk e ▸ .nil⟩
 | cons v vs ih =>
   intro ps ds r e
   cases r with | cons a r =>
   obtain ⟨d, h1, e⟩ := bnd e
   obtain ⟨ds', h2, e⟩ := mp' e
   obtain ⟨as, ra⟩ := F _ _ _ a h1
   obtain ⟨bs, rb⟩ := ih r h2
   exact ⟨as ++ bs, qk e ▸ .cons ra rb⟩
theorem Fh (S : SR w hT ρ μ h) (n : Nat) : ∀ (v : Pu) (p : PV) (d : Ua), Rv hT ρ h v p -> jK μ n p = some d -> ∃ as, b4 h v d as := by
 induction n with
 | zero => exact fun zz zz zz zz e => no e
 | succ n ih =>
   intro v p d r e
   have r := r.inv
   induction p using PV.casesOn with
   | none => exact ⟨[], r ▸ qk e ▸ .none⟩
   | bool b => exact ⟨[], r ▸ qk e ▸ .bool b⟩
   | int i => obtain ⟨t, r⟩ := r; exact ⟨[], r ▸ qk e ▸ .int i t⟩
   | str x => obtain ⟨t, r, _⟩ := r; exact ⟨[], r ▸ qk e ▸ .str x t⟩
   | tup l =>
     obtain ⟨a, vs, r, ⟨o, ho, hc, k, hd⟩, hl⟩ := r
     obtain ⟨ds, h1, h2⟩ := mp' e
     obtain ⟨as, ra⟩ := QO ih vs hl h1
     exact ⟨as, r ▸ qk h2 ▸ .tuple ho hc hd ra⟩
   | loc m =>
     obtain ⟨a, r, hn⟩ := r
     obtain ⟨l, hl, e⟩ := bnd e
     obtain ⟨ds, h1, h2⟩ := mp' e
     obtain ⟨_, vs, hp, hv⟩ := S.listAt hn hl
     obtain ⟨as, ra⟩ := QO ih vs hv h1
     obtain ⟨o, ho, hc, k, hd⟩ := PlainList.isList hp
     exact ⟨a :: as, by rw [r, <- qk h2]; exact .list ho hc hd ra⟩
   | val v => exact no e
   | il => exact no e
theorem wZ (S : SR w hT ρ μ h) {v : Pu} {p : PV} {d : Ua} (r : Rv hT ρ h v p) (e : jd μ p = some d) : (∃ as, b4 h v d as) /\ d.canLay0 = true /\ d.depth <= 64 := by
 obtain ⟨d', h1, e⟩ := bnd e
 obtain ⟨hc, e⟩ := ifT e
 rw [<- qk e]
 exact ⟨Fh S _ _ _ _ r h1, (an hc).1, of_decide_eq_true (an hc).2⟩
end
section
variable {w : Rk} {hT : PP} {A : RE} {ρ : List PE} {μ : q4} {s : Py} {n : Nat}
theorem xT.pret {α β : Type} {rel : List PE -> PP -> α -> β -> Prop} {b : β} {μ' : q4} {r : Except Exn β} {Q : α -> Py -> Prop} {E : Pu -> Py -> Prop} {a : α} {tk : Nat}
 (P : xT w hT rel ρ s r μ' Q E) (hm : some ((.ok b : Except Exn β), μ) = some (r, μ')) (S : SR w hT ρ μ s.heap) (rv : rel ρ s.heap a b) : Q a { s with toks := tk } := by
 cases hm
 exact P.ok a s.heap tk ρ b rfl (Le.refl _ _ _) S rv
theorem xT.of {α β : Type} {rel : List PE -> PP -> α -> β -> Prop} {r r' : Except Exn β} {μ₁ μ' : q4} {Q : α -> Py -> Prop} {E : Pu -> Py -> Prop} (P : xT w hT rel ρ s r μ' Q E) (hm : some (r', μ₁) = some (r, μ')) : xT w hT rel ρ s r' μ₁ Q E := by
 cases hm; exact P
theorem xH.of {α β : Type} {rel : List PE -> PP -> α -> β -> Prop} {r r' : Except Exn β} {μ₁ μ' : q4} {Q : α -> Py -> Prop} {E : Pu -> Py -> Prop} (P : xH w hT rel ρ s r μ' Q E) (hm : some (r', μ₁) = some (r, μ')) : xH w hT rel ρ s r' μ₁ Q E := by
 cases hm; exact P
theorem gS (R : jX A n) : A.units + 200 < cj := RI (by lia) R.2.2
theorem Z0 : typeLookup (.type "re.Match") "__bool__" = pure none := by rw [TW, SN]; kernel_rfl
theorem XC : typeLookup (.type "re.Match") "__len__" = pure none := by rw [TW, SN]; kernel_rfl
theorem Jp {M : U9} {a : PE} {o : Obj} {Q : Bool -> Py -> Prop} {E : Pu -> Py -> Prop} (ho : s.heap.get? a = some o) (hc : o.cls = .type "re.Match") (h : Q true s) : PQ M A (bm (.ref a)) Q E s := by
 have hT : s.TypeIs (.ref a) "re.Match" := ⟨o, ho, hc⟩
 unfold bm
 refine wpAny_bind (m := callSpecial? (.ref a) (Pv "__bool__")) ?_
 unfold callSpecial?
 refine wpAny_bind (TX (name := Pv "__bool__") hT Z0 (wpAny_pure ?_))
 refine wpAny_bind (TX (name := Pv "__len__") hT XC ?_)
 exact wpAny_pure h
theorem big : Pr < 2 ^ 63 := by decide
theorem Nm : 16777217 < 2 ^ 63 := by decide
theorem Ha {n : Nat} (h : n < 2 ^ 63) : ¬ ((n : Int) ≥ 2 ^ 63) := by lia
theorem EI {n : Nat} (h : n < 2 ^ 63) : (n : Int) < 2 ^ 63 := by omega
theorem HO {n : Nat} : ((n : Int) != 0) = decide (n ≠ 0) := by by_cases hi : n = 0 <;> simp [hi]
theorem wi {v : Pu} {p : PV} (S : SR w hT ρ μ s.heap) (rv : Rv hT ρ s.heap v p) : Sim w hT A (fun zz zz a b => a = b) ρ s (bm v) (tru p μ) := by
 refine Sim.of0 fun r μ' hm Q E P => ?_
 have ri := rv.inv
 induction p using PV.casesOn with
 | none => exact ri ▸ truthy_none (P.pret (tk := s.toks) hm S rfl)
 | bool b => exact ri ▸ wpAny_truthy_bool (P.pret (tk := s.toks) hm S rfl)
 | int i =>
   obtain ⟨t, ri⟩ := ri
   refine ri ▸ truthy_int (P.pret (tk := s.toks) hm S ?_)
   show (i != 0) = decide (i ≠ 0)
   by_cases hi : i = 0 <;> simp [hi]
 | str x =>
   obtain ⟨t, ri, hx⟩ := ri
   exact ri ▸ PySem.P.truthy_str (Ha (RI hx big)) (P.pret hm S HO)
 | loc m =>
   obtain ⟨t, ht, hm⟩ := mp' hm
   obtain ⟨l, hl, e⟩ := mp' (show (q5 μ m).map _ = some t from ht)
   obtain ⟨a, _, vs, _, _, e2, hp, hv, hlv, hb⟩ := rv.list S (show j3 μ (.loc m) = some l from hl)
   refine e2 ▸ wpAny_truthy_list (PlainList.isList hp) (EI (RI (TB hlv) (RI hb Nm)))  (P.pret hm S ?_)
   rw [<- qk e, <- hlv]
   induction vs <;> rfl
 | tup => exact no hm
 | val => exact no hm
 | il => exact no hm
theorem Wh {a b : Pu} {p q : PV} {f : Bool -> Bool} {r : Except Exn PV} {μ' : q4} (S : SR w hT ρ μ s.heap) (ra : Rv hT ρ s.heap a p) (rb : Rv hT ρ s.heap b q) (hm : ((peq μ p q).map fun r => ((.ok (.bool (f r)) : Except Exn PV), μ)) = some (r, μ')) :
 ∃ x y as bs, b4 s.heap a x as /\ b4 s.heap b y bs /\ x.canLay0 = true /\ y.canLay0 = true /\ x.depth <= 64 /\ some ((.ok (.bool (f (Sn x y))) : Except Exn PV), μ) = some (r, μ') := by
 obtain ⟨t, ht, hm⟩ := mp' hm
 obtain ⟨x, hx, ht⟩ := bnd ht
 obtain ⟨y, hy, ht⟩ := mp' ht
 obtain ⟨⟨as, r1⟩, c1, d1⟩ := wZ S ra hx
 obtain ⟨⟨bs, r2⟩, c2, _⟩ := wZ S rb hy
 exact ⟨x, y, as, bs, r1, r2, c1, c2, d1, qk ht ▸ hm⟩
theorem Qp {p : PV} {y : Str} (h : jd μ p = some (.str y)) : zB p = true := by
 obtain ⟨d, h1, h⟩ := bnd h
 obtain ⟨_, h⟩ := ifT h
 have h := qk h
 subst h
 induction p using PV.casesOn <;> first | rfl | exact no h1 | (cases qk h1; done) | (obtain ⟨_, _, e⟩ := mp' h1; cases qk e; done) | skip
 obtain ⟨_, _, e⟩ := bnd h1
 obtain ⟨_, _, e⟩ := mp' e
 cases qk e
theorem Vo {a b : Pu} {p q : PV} {f : Bool -> Bool} {r : Except Exn PV} {μ' : q4} (S : SR w hT ρ μ s.heap) (ra : Rv hT ρ s.heap a p) (rb : Rv hT ρ s.heap b q) (hm : ((pin μ p q).map fun r => ((.ok (.bool (f r)) : Except Exn PV), μ)) = some (r, μ')) :
 (∃ x ys as bs, b4 s.heap a x as /\ x.canLay0 = true /\ x.depth <= 64 /\ ((b4 s.heap b (.list ys) bs /\ (SV ys).canLay0 = true /\ (SV ys).depth <= 64) \/ (b4 s.heap b (.tuple ys) bs /\ (Ag ys).canLay0 = true /\ (Ag ys).depth <= 64)) /\ some ((.ok (.bool (f (ys.any fun y => Sn y x))) : Except Exn PV), μ) = some (r, μ')) \/
 (∃ x y as bs, zB q = true /\ b4 s.heap a (.str x) as /\ b4 s.heap b (.str y) bs /\ some ((.ok (.bool (f (Uy y x))) : Except Exn PV), μ) = some (r, μ')) := by
 obtain ⟨t, ht, hm⟩ := mp' hm
 obtain ⟨x, hx, ht⟩ := bnd ht
 obtain ⟨y, hy, ht⟩ := bnd ht
 obtain ⟨⟨as, r1⟩, c1, d1⟩ := wZ S ra hx
 obtain ⟨⟨bs, r2⟩, c2, d2⟩ := wZ S rb hy
 cases y <;> first | exact no ht | skip
 ·cases x <;> first | exact no ht | exact .inr ⟨_, _, as, bs, Qp hy, r1, r2, qk ht ▸ hm⟩
 ·exact .inl ⟨x, _, as, bs, r1, c1, d1, .inl ⟨r2, c2, d2⟩, qk ht ▸ hm⟩
 ·exact .inl ⟨x, _, as, bs, r1, c1, d1, .inr ⟨r2, c2, d2⟩, qk ht ▸ hm⟩
theorem JA {v : Pu} {p : PV} {t : Bool} (r : Rv hT ρ s.heap v p) (e : isNone p = some t) : PySem.plainIs v U1 = true /\ (v == U1) = t := by
 have r := r.inv
 induction p using PV.casesOn with
 | none => subst r; exact ⟨rfl, qk e⟩
 | bool => subst r; exact ⟨rfl, qk e⟩
 | int => obtain ⟨_, rfl⟩ := r; exact ⟨rfl, qk e⟩
 | str => obtain ⟨_, rfl, _⟩ := r; exact ⟨rfl, qk e⟩
 | tup => obtain ⟨_, _, rfl, _⟩ := r; exact ⟨rfl, qk e⟩
 | loc => obtain ⟨_, rfl, _⟩ := r; exact ⟨rfl, qk e⟩
 | val => exact no e
 | il => exact no e
theorem V9 {a b : Pu} {p q : PV} {t : Bool} (ra : Rv hT ρ s.heap a p) (rb : Rv hT ρ s.heap b q) (h : pis p q = some t) : PySem.plainIs a b = true /\ (a == b) = t := by
 unfold pis at h
 induction hb : fk q with
 | some y =>
   rw [hb] at h
   obtain ⟨x, ha, h⟩ := mp' h
   rw [ra.yI ha, rb.yI hb, <- qk h]
   exact ⟨rfl, by by_cases e : x = y <;> simp [e]⟩
 | none =>
   rw [hb] at h
   obtain ⟨hn, h⟩ := ifT h
   have : isNone q = some true := by
    induction hq : isNone q with
    | none => rw [hq] at hn; exact noB hn
    | some t => rw [hq] at hn; exact congrArg some hn
   rw [rb.nI this]
   exact JA ra h
theorem V6 {op : Uv} {a b : Pu} {p q : PV} (S : SR w hT ρ μ s.heap) (R : jX A n) (ra : Rv hT ρ s.heap a p) (rb : Rv hT ρ s.heap b q) : Sim w hT A (Rv hT) ρ s (compareOp op a b) (qY op p q μ) := by
 refine Sim.of0 fun r μ' hm Q E P => ?_
 have hu := gS R
 have hu' : ∀ {d : Nat}, d <= 64 -> A.units + d < cj := fun h => RI (So (Pq h (by decide)) _) hu
 have key : ∀ {t : Bool}, some ((.ok (.bool t) : Except Exn PV), μ) = some (r, μ') -> Q (.bool t) s := fun {t} hm2 => P.pret (tk := s.toks) hm2 S (.bool t)
 induction op with
 | Eq =>
   obtain ⟨x, y, as, bs, r1, r2, c1, c2, d1, hm⟩ := Wh (f := id) S ra rb hm
   exact PySem.SeqAt.compareEq_reads r1 r2 c1 c2 (by lia) (key hm)
 | NotEq =>
   obtain ⟨x, y, as, bs, r1, r2, c1, c2, d1, hm⟩ := Wh (f := not) S ra rb hm
   exact PySem.SeqAt.compareNe_reads r1 r2 c1 c2 (by lia) (key hm)
 | Lt =>
   obtain ⟨x, hx, hm⟩ := bnd hm
   obtain ⟨y, hy, hm⟩ := bnd hm
   obtain ⟨t, rfl⟩ := ra.iI hx
   obtain ⟨u, rfl⟩ := rb.iI hy
   exact lt_int (key hm)
 | Gt =>
   obtain ⟨x, hx, hm⟩ := bnd hm
   obtain ⟨y, hy, hm⟩ := bnd hm
   obtain ⟨t, rfl⟩ := ra.iI hx
   obtain ⟨u, rfl⟩ := rb.iI hy
   exact gt_int (key hm)
 | Is =>
   obtain ⟨t, ht, hm⟩ := mp' hm
   obtain ⟨h1, h2⟩ := V9 ra rb ht
   exact wpAny_is_plain h1 (key (h2 ▸ hm))
 | IsNot =>
   obtain ⟨t, ht, hm⟩ := mp' hm
   obtain ⟨h1, h2⟩ := V9 ra rb ht
   exact wpAny_isNot_plain h1 (key (h2 ▸ hm))
 | In =>
   rcases Vo (f := id) S ra rb hm with ⟨x, ys, as, bs, r1, c1, d1, ⟨r2, c2, d2⟩ | ⟨r2, c2, d2⟩, hm⟩ | ⟨x, y, as, bs, hs, r1, r2, hm⟩
   ·exact PySem.SeqAt.in_list_reads r2 r1 c2 c1 (by lia) (key hm)
   ·exact PySem.SeqAt.in_tuple_reads r2 r1 c2 c1 (by lia) (key hm)
   ·cases r1; cases r2
    exact PySem.P.in_str (key hm)
 | NotIn =>
   obtain ⟨hn, hm⟩ := ifB hm
   rcases Vo (f := not) S ra rb hm with ⟨x, ys, as, bs, r1, c1, d1, ⟨r2, c2, d2⟩ | ⟨r2, c2, d2⟩, hm⟩ | ⟨x, y, as, bs, hs, r1, r2, hm⟩
   ·exact PySem.SeqAt.notIn_list_reads r2 r1 c2 c1 (by lia) (key hm)
   ·exact PySem.SeqAt.notIn_tuple_reads r2 r1 c2 c1 (by lia) (key hm)
   ·exact noB (hn.symm.trans hs)
 | _ => exact no hm
end
section
variable {w : Rk} {hT : PP} {ρ : List PE} {μ : q4} {h h' : PP}
theorem Kv.of_keeps (k : ∀ b o, h.get? b = some o -> h'.get? b = some o) : Kv h h' := fun b o e zz => ⟨o.slots, k b o e⟩
theorem Rc.keeps {more : List PE} {a : PE} {c : q8} (k : ∀ b o, h.get? b = some o -> h'.get? b = some o) (x : Rc w hT ρ h a c) : Rc w hT (ρ ++ more) h' a c := by
 have hx : ∃ m, ρ ++ more = ρ ++ m := ⟨more, rfl⟩
 induction c with
 | list l =>
   obtain ⟨hl, vs, ⟨n, hp⟩, hv⟩ := x
   exact ⟨hl, vs, ⟨n, k _ _ hp⟩, hv.mono hx (Kv.of_keeps k)⟩
 | dict l =>
   obtain ⟨kvs, ⟨o, es, ep, ho, r⟩, hv⟩ := x
   exact ⟨kvs, ⟨o, es, ep, k _ _ ho, r⟩, hv.mono hx (Kv.of_keeps k)⟩
 | inst d =>
   obtain ⟨y, hy, ho⟩ := x
   exact ⟨y, jn hx hy, k _ _ ho⟩
 | kw l =>
   obtain ⟨kvs, ⟨o, es, ho, r⟩, hv⟩ := x
   exact ⟨kvs, ⟨o, es, k _ _ ho, r⟩, hv.mono hx (Kv.of_keeps k)⟩
theorem SR.keeps (S : SR w hT ρ μ h) (k : ∀ b o, h.get? b = some o -> h'.get? b = some o) : SR w hT ρ μ h' :=
 ⟨fun b o e => k _ _ (S.top b o e), S.nodup, S.len, S.notop, S.low, fun n a c h1 h2 => by simpa using (Rc.keeps (more := []) k (S.cells n a c h1 h2))⟩
theorem SR.lt (S : SR w hT ρ μ h) {a : PE} (ha : a ∈ ρ) : a < h.objs.size := by
 obtain ⟨o, ho, _⟩ := S.data ha
 exact RJ ho
theorem qg (h : PP) (o : Obj) : ∀ b o', h.get? b = some o' -> (h.push o).get? b = some o' := fun zz zz e => Ah _ e
theorem XL (h : PP) : h.get? h.objs.size = none := by
 induction q : h.get? h.objs.size with
 | none => rfl
 | some o => exact absurd (RJ q) (Sq _)
theorem SR.cell (S : SR w hT ρ μ h) {o : Obj} {c : q8} (hc : Rc w hT (ρ ++ [h.objs.size]) (h.push o) h.objs.size c) : SR w hT (ρ ++ [h.objs.size]) (μ ++ [c]) (h.push o) := by
 have k := qg h o
 have hbig : T1 < h.objs.size := by
  obtain ⟨⟨b, o, hb, ho⟩, _⟩ := S.low
  exact b5 hb (RJ (S.top _ _ ho))
 refine ⟨fun b o e => k _ _ (S.top b o e), ?_, by simp [S.len], fun a ha => ?_, ⟨S.low.1, fun a ha => ?_⟩, fun n a d h1 h2 => ?_⟩
 ·refine US.mpr ⟨S.nodup, by simp, fun a ha b hb => ?_⟩
  rw [Pw.mp hb]
  exact RQ (S.lt ha)
 ·rcases PU.mp ha with q | q
  ·exact S.notop a q
  ·rw [Pw.mp q]
   induction q' : hT.get? h.objs.size with
   | none => rfl
   | some o' => exact absurd (RJ (S.top _ _ q')) (Sq _)
 ·rcases PU.mp ha with q | q
  ·exact S.low.2 a q
  ·rw [Pw.mp q]; exact hbig
 ·by_cases hn : n < ρ.length
  ·rw [RB hn] at h1
   rw [RB (S.len ▸ hn)] at h2
   exact Rc.keeps k (S.cells n a d h1 h2)
  ·have hn' : n = ρ.length := by
    have := (R0.mp h1).1
    simp at this; lia
   subst hn'
   rw [Rn (PK _), Ss] at h1
   rw [S.len, Rn (PK _), Ss] at h2
   cases h1; cases h2
   exact hc
theorem Le.cell (o : Obj) : Le [] ρ h (ρ ++ [h.objs.size]) (h.push o) :=
 ⟨⟨[h.objs.size], rfl, fun a ha => by rw [Pw.mp ha]; exact XL h⟩, Kp.of_keeps fun b o zz => qg h _ b o, fun b o e => ⟨o, qg h _ b o e⟩, fun b o e zz zz zz => qg h _ b o e⟩
theorem jD {a : PE} (S : SR w hT ρ μ h) : (ρ ++ [a])[μ.length]? = some a := by
 rw [<- S.len, Rn (PK _), Ss]; rfl
theorem vH {l : List PE} (h : l.Nodup) {i j : Nat} {a : PE} (h1 : l[i]? = some a) (h2 : l[j]? = some a) : i = j := by
 have p := List.pairwise_iff_getElem.mp h
 obtain ⟨l1, e1⟩ := R0.mp h1
 obtain ⟨l2, e2⟩ := R0.mp h2
 rcases UT i j with q | q | q
 ·exact absurd (e1.trans e2.symm) (p i j l1 l2 q)
 ·exact q
 ·exact absurd (e2.trans e1.symm) (p j i l2 l1 q)
theorem SR.set (S : SR w hT ρ μ h) {n : Nat} {a : PE} {c : q8} (hn : ρ[n]? = some a) (hs : RK a h h') (hc : Rc w hT ρ h' a c) : SR w hT ρ (qj μ n c) h' := by
 have ha : a ∈ ρ := Rr hn
 have hne : ∀ b o, hT.get? b = some o -> b ≠ a := fun b o e q => by rw [q, S.notop a ha] at e; cases e
 have kv : Kv h h' := by
  intro b o hb hk
  have : b ≠ a := by
   intro q; subst q
   obtain ⟨o', ho', h1, h2, _⟩ := S.data ha
   rw [hb] at ho'; cases ho'
   exact h1 hk.1
  exact ⟨o.slots, (hs.2 b this).trans hb⟩
 refine ⟨fun b o e => (hs.2 b (hne b o e)).trans (S.top b o e), S.nodup, by simp [qj, S.len], S.notop, S.low, fun m b d h1 h2 => ?_⟩
 unfold qj at h2
 by_cases hm : m = n
 ·subst hm
  rw [hn] at h1; cases h1
  rw [Ai (by rw [<- S.len]; exact (R0.mp hn).1)] at h2
  cases h2
  exact hc
 ·rw [AL (SO hm)] at h2
  have hb : b ≠ a := by
   intro q; subst q
   exact hm (vH S.nodup h1 hn)
  have x := S.cells m b d h1 h2
  have hx : ∃ more, ρ = ρ ++ more := ⟨[], by simp⟩
  induction d with
  | list l =>
    obtain ⟨hl, vs, ⟨k, hp⟩, hv⟩ := x
    exact ⟨hl, vs, ⟨k, (hs.2 b hb).trans hp⟩, hv.mono hx kv⟩
  | dict l =>
    obtain ⟨kvs, ⟨o, es, ep, ho, r⟩, hv⟩ := x
    exact ⟨kvs, ⟨o, es, ep, (hs.2 b hb).trans ho, r⟩, hv.mono hx kv⟩
  | inst d =>
    obtain ⟨y, hy, ho⟩ := x
    exact ⟨y, hy, (hs.2 b hb).trans ho⟩
  | kw l =>
    obtain ⟨kvs, ⟨o, es, ho, r⟩, hv⟩ := x
    exact ⟨kvs, ⟨o, es, (hs.2 b hb).trans ho, r⟩, hv.mono hx kv⟩
theorem Le.set {a : PE} (ha : a ∈ ρ) (hs : RK a h h') (h1 : ∃ o, h'.get? a = some o) : Le [] ρ h ρ h' := by
 refine ⟨⟨[], by simp, by simp⟩, fun b o e hn zz => ⟨o.slots, (hs.2 b fun q => hn (q ▸ ha)).trans e⟩, fun b o e => ?_, fun b o e hn zz zz => (hs.2 b fun q => hn (q ▸ ha)).trans e⟩
 by_cases hb : b = a
 ·subst hb; exact h1
 ·exact ⟨o, (hs.2 b hb).trans e⟩
theorem SR.kvSet (S : SR w hT ρ μ h) {a : PE} (ha : a ∈ ρ) (hs : RK a h h') : Kv h h' := by
 intro b o hb hk
 have : b ≠ a := by
  intro q; subst q
  obtain ⟨o', ho', h1, h2, _⟩ := S.data ha
  rw [hb] at ho'; cases ho'
  exact h1 hk.1
 exact ⟨o.slots, (hs.2 b this).trans hb⟩
theorem RvL.append {vs ws : List Pu} {ps qs : List PV} (r : RvL hT ρ h vs ps) (b : RvL hT ρ h ws qs) : RvL hT ρ h (vs ++ ws) (ps ++ qs) := by
 induction vs generalizing ps with
 | nil => cases r; exact b
 | cons v vs ih => cases r with | cons a r => exact .cons a (ih r)
end
section
variable {w : Rk} {hT : PP} {A : RE} {ρ : List PE} {μ : q4} {s : Py} {n : Nat}
theorem xe {vs : List Pu} {l : List PV} {r : Except Exn PV} {μ' : q4} {Q : Pu -> Py -> Prop} {E : Pu -> Py -> Prop} (S : SR w hT ρ μ s.heap) (hv : RvL hT ρ s.heap vs l) (hlen : l.length <= Pr)
 (hm : JQ (.list l) μ = some (r, μ')) (P : xT w hT (Rv hT) ρ s r μ' Q E) {tk : Nat} {k : Nat} :
 Q (.ref s.heap.objs.size) { s with heap := s.heap.push { cls := .type "list", data := .seq vs.toArray k }, toks := tk } := by
 cases hm
 refine P.ok _ _ _ _ _ rfl (Le.cell _) (S.cell ⟨by lia, vs, ⟨k, Rg _ rfl⟩, hv.mono ⟨_, rfl⟩ (Kv.of_keeps (qg _ _))⟩) (.loc (jD S))
theorem Xk {l b : PE} {vs ws : List Pu} {Q : Pu -> Py -> Prop} {E : Pu -> Py -> Prop} (hl : s.heap.IsList l vs.toArray) (hb : s.heap.IsList b ws.toArray)
 (h : Q (.ref s.heap.objs.size) { s with heap := s.heap.push { cls := .type "list", data := .seq (vs ++ ws).toArray } }) (hsz : vs.length + ws.length <= Pr) :
 PQ (MM w) A (A6 .Add (.ref l) (.ref b)) Q E s := by
 obtain ⟨⟨cls, dd, data, sl⟩, ho, hc, n, hd⟩ := id hl
 obtain ⟨⟨cls2, dd2, data2, sl2⟩, ho2, hc2, n2, hd2⟩ := id hb
 simp only at hc hd hc2 hd2
 subst hc hd hc2 hd2
 have e : vs.toArray ++ ws.toArray = (vs ++ ws).toArray := by simp
 refine concat_meets ⟨_, ho, rfl⟩ ⟨_, ho2, rfl⟩ noFill_list_add seq_list_add PySem.F.slot_list_add PySem.F.entry_list_add (PySem.F.args_list_add_2 _ _) (list_addW l b vs.toArray ws.toArray n n2 dd dd2 sl sl2 (by simpa using hsz)) ⟨ho, ho2, ?_⟩
 rw [e]; exact h
theorem YV {l : PE} {items : Array Pu} {k : Nat} {x : Int} {u : Tok} {Q : Pu -> Py -> Prop} {E : Pu -> Py -> Prop}
 (hl : s.heap.get? l = some { cls := .type "list", dict := none, data := .seq items k, slots := #[] })
 (hlo : -(2 ^ 63 : Int) <= x) (hhi : x < 2 ^ 63) (hsz : items.size * x.toNat <= 2 ^ 24)
 (h : Q (.ref s.heap.objs.size) { s with heap := s.heap.push { cls := .type "list", data := .seq (bY (fun x1 x2 => x1 ++ x2) #[] (Rw (if items.isEmpty = true then 0 else x.toNat) items)) } }) :
 PQ (MM w) A (A6 .Mult (.ref l) (.int x u)) Q E s :=
 wpAny_binaryOp_repeat_ref (T := "list") (U := "int") (by decide) ⟨_, hl, rfl⟩ (fun s' => typeIs_int s' x u) noFill_list_mul F.fills_int_mul F.slot_int_rmul repeat_list F.slot_int_index.lookup
  (T2 F.slot_int_rmul (typeIs_int s x u) F.entry_int_rmul (F.args_int_rmul_2 _ _) (int___rmul___int_list x u l items k)
    ⟨hl, rfl, ⟨_, hl, rfl⟩, T2 F.slot_list_mul ⟨_, hl, rfl⟩ F.entry_list_mul (F.args_list_mul_2 _ _)
      (AutoListH.list___mul___list_int_3 l items k x u (by simp [TY.List.listFitsIndex]; lia) (by lia) (by simp [UZ, Pr]; lia))
      ⟨hl, h⟩⟩)
theorem wv (k : Nat) (items acc : Array Pu) : (bY (fun x1 x2 => x1 ++ x2) acc (Rw k items)).toList = acc.toList ++ (Rw k items.toList).flatten := by
 induction k generalizing acc with
 | zero => simp
 | succ k ih => rw [TH, List.foldl_cons, ih]; simp [TH]
theorem RvL.rep {h : PP} {vs : List Pu} {ps : List PV} (r : RvL hT ρ h vs ps) : ∀ k : Nat, RvL hT ρ h (Rw k vs).flatten (Rw k ps).flatten
 | 0 => .nil
 | k + 1 => by rw [TH, TH, b7, b7]; exact r.append (r.rep k)
theorem wj {x : Str} {r : Except Exn PV} {μ' : q4} (hm : yx x μ = some (r, μ')) : x.length <= Pr /\ some ((.ok (.str x) : Except Exn PV), μ) = some (r, μ') := by
 unfold yx at hm
 by_cases h : x.length <= Pr
 ·rw [if_pos h] at hm; exact ⟨h, hm⟩
 ·rw [if_neg h] at hm; exact no hm
theorem zI {l : List PV} {r : Except Exn PV} {μ' : q4} (hm : jr l μ = some (r, μ')) : l.length <= Pr /\ JQ (.list l) μ = some (r, μ') := by
 unfold jr at hm
 by_cases h : l.length <= Pr
 ·rw [if_pos h] at hm; exact ⟨h, hm⟩
 ·rw [if_neg h] at hm; exact no hm
theorem VD {h : PP} {vs : List Pu} : ∀ {ps : List PV} {ts : List Str}, RvL hT ρ h vs ps -> vN ps = some ts -> ∃ l : List (Str × Tok), vs = bo l /\ l.map (·.1) = ts /\ ∀ y ∈ ts, y.length <= Pr := by
 induction vs with
 | nil => intro ps ts r e; cases r; cases e; exact ⟨[], rfl, rfl, by simp⟩
 | cons v vs ih =>
   intro ps ts r e
   cases r with | cons a r =>
   obtain ⟨x, h1, e⟩ := bnd e
   obtain ⟨ts', h2, e⟩ := mp' e
   obtain ⟨t, rfl, hx⟩ := a.sI h1
   obtain ⟨l, rfl, h3, h4⟩ := ih r h2
   exact ⟨(x, t) :: l, rfl, by rw [<- qk e, <- h3]; rfl, fun y hy => by rw [<- qk e] at hy; rcases Rq.mp hy with rfl | q; exact hx; exact h4 y q⟩
theorem DN {a b : Pu} {p q : PV} (S : SR w hT ρ μ s.heap) (ra : Rv hT ρ s.heap a p) (rb : Rv hT ρ s.heap b q) : Sim w hT A (Rv hT) ρ s (A6 .Add a b) (L9 p q μ) := by
 refine Sim.of0 fun r μ' hm Q E P => ?_
 unfold L9 at hm
 induction hp : qx p with
 | some x =>
   rw [hp] at hm
   obtain ⟨y, hy, hm⟩ := bnd hm
   obtain ⟨h1, hm⟩ := wj hm
   obtain ⟨t, rfl, _⟩ := ra.sI hp
   obtain ⟨u, rfl, _⟩ := rb.sI hy
   exact add_str (fun t' tk => P.pret hm S (.str _ _ h1)) (by simpa [PN] using h1)
 | none =>
   rw [hp] at hm
   obtain ⟨l, hl, hm⟩ := bnd hm
   obtain ⟨m, hl2, hm⟩ := bnd hm
   obtain ⟨hlen, hm⟩ := zI hm
   obtain ⟨a, _, vs, _, _, rfl, hp, hv, h1, _⟩ := ra.list S hl
   obtain ⟨b, _, ws, _, _, rfl, hp2, hv2, h2, _⟩ := rb.list S hl2
   exact Xk (PlainList.isList hp) (PlainList.isList hp2) (xe S (hv.append hv2) hlen hm P (tk := s.toks)) (by rw [h1, h2]; simpa using hlen)
theorem Ex {x : Nat} {y : Int} (g1 : 2 <= y) (g2 : y <= 100) (g3 : x <= 100) : (x : Int) <= (2 ^ 63 - 1) / y /\ x * y.toNat <= 10000 := by
 have h5 : (x : Int) * y <= 100 * 100 := Int.mul_le_mul (by lia) (by lia) (by lia) (by lia)
 have h6 : x * y.toNat <= 100 * 100 := AM g3 (by lia)
 exact ⟨(Int.le_ediv_iff_mul_le (by lia)).mpr (by lia), h6⟩
theorem Bg {a b : Pu} {p q : PV} (S : SR w hT ρ μ s.heap) (ra : Rv hT ρ s.heap a p) (rb : Rv hT ρ s.heap b q) : Sim w hT A (Rv hT) ρ s (A6 .Mult a b) (Ho p q μ) := by
 refine Sim.of0 fun r μ' hm Q E P => ?_
 obtain ⟨y, hy, hm⟩ := bnd hm
 obtain ⟨t, rfl⟩ := rb.iI hy
 induction hp : qx p with
 | some x =>
   rw [hp] at hm
   obtain ⟨⟨g1, g2, g3, g4⟩, hm⟩ := ifT hm
   obtain ⟨h1, hm⟩ := wj hm
   obtain ⟨u, rfl, _⟩ := ra.sI hp
   obtain ⟨g5, g6⟩ := Ex g1 g2 g3
   have e24 := GG
   refine SB.mul ⟨by simp; lia, fun zz zz => ?_, fun zz zz => ?_⟩ fun t' k => P.pret hm S (.str _ _ h1)
   ·lia
   ·unfold am
    simp only [decide_eq_false_iff_not]
    lia
 | none =>
   rw [hp] at hm
   obtain ⟨l, hl, hm⟩ := bnd hm
   obtain ⟨⟨g1, g2, g3⟩, hm⟩ := ifT hm
   obtain ⟨a, _, vs, _, _, rfl, ⟨k, hp⟩, hv, h1, _⟩ := ra.list S hl
   refine YV hp (by lia) (by lia) (by simp only [RV, h1]; rw [GG] at g3; exact g3) ?_
   have hlen : ((Rw y.toNat l).flatten).length <= Pr := by simp; rw [Nat.mul_comm]; exact g3
   have e2 : bY (fun x1 x2 => x1 ++ x2) #[] (Rw (if vs.toArray.isEmpty = true then 0 else y.toNat) vs.toArray) = ((Rw y.toNat vs).flatten).toArray := by
    apply UE
    rw [wv]
    induction vs <;> simp
   rw [e2]
   exact xe S (hv.rep y.toNat) hlen hm P (tk := s.toks)
theorem ZK {y : Int} (h : ¬ (y = 0 \/ 2 ^ 60 <= y.natAbs)) : y ≠ 0 /\ y.natAbs.log2 < 60 := by
 have hy : y.natAbs ≠ 0 := by lia
 exact ⟨by lia, (Nat.log2_lt hy).mpr (by lia)⟩
theorem CU {op : AH} {a b : Pu} {p q : PV} (S : SR w hT ρ μ s.heap) (ra : Rv hT ρ s.heap a p) (rb : Rv hT ρ s.heap b q)
 (hmod : ∀ x t, a = .str x t -> p = .str x -> x.length <= Pr -> Sim w hT A (Rv hT) ρ s (A6 .Mod a b) (I6 x q μ)) : Sim w hT A (Rv hT) ρ s (A6 op a b) (kK op p q μ) := by
 induction op with
 | Add => exact DN S ra rb
 | Mult => exact Bg S ra rb
 | Mod =>
   show Sim w hT A (Rv hT) ρ s _ (Ir p q μ)
   unfold Ir
   induction hp : qx p with
   | some x => obtain ⟨t, e, hx⟩ := ra.sI hp; exact hmod x t e (vM hp) hx
   | none =>
     refine Sim.of0 fun r μ' hm Q E P => ?_
     obtain ⟨x, hx, hm⟩ := bnd hm
     obtain ⟨y, hy, hm⟩ := bnd hm
     obtain ⟨h0, hm⟩ := ifF hm
     obtain ⟨t, rfl⟩ := ra.iI hx
     obtain ⟨u, rfl⟩ := rb.iI hy
     exact mod_int h0 (P.pret hm S (.int _ _))
 | FloorDiv =>
   refine Sim.of0 fun r μ' hm Q E P => ?_
   obtain ⟨x, hx, hm⟩ := bnd hm
   obtain ⟨y, hy, hm⟩ := bnd hm
   obtain ⟨h0, hm⟩ := ifF hm
   obtain ⟨t, rfl⟩ := ra.iI hx
   obtain ⟨u, rfl⟩ := rb.iI hy
   exact floordiv_int (ZK h0).1 (P.pret hm S (.int _ _)) (.inl (PyProof.noPylong_of_log2 (PZ (ZK h0).2 (by decide))))
 | Sub =>
   refine Sim.of0 fun r μ' hm Q E P => ?_
   obtain ⟨x, hx, hm⟩ := bnd hm
   obtain ⟨y, hy, hm⟩ := bnd hm
   obtain ⟨t, rfl⟩ := ra.iI hx
   obtain ⟨u, rfl⟩ := rb.iI hy
   exact sub_int (P.pret hm S (.int _ _))
 | _ => exact Sim.of0 fun r μ' hm Q E P => no hm
theorem RvL.get {h : PP} {vs : List Pu} : ∀ {ps : List PV} {i : Nat} {p : PV}, RvL hT ρ h vs ps -> ps[i]? = some p -> ∃ v, vs[i]? = some v /\ Rv hT ρ h v p := by
 induction vs with
 | nil => intro ps i p r e; cases r; exact no e
 | cons v vs ih =>
   intro ps i p r e
   cases r with | cons a r =>
   induction i using AN with
   | zero => exact ⟨v, rfl, qk e ▸ a⟩
   | succ i => exact ih r e
theorem RvL.pick {h : PP} {vs : List Pu} {ps : List PV} (r : RvL hT ρ h vs ps) : ∀ (is : List Nat), RvL hT ρ h (is.filterMap (vs[·]?)) (is.filterMap (ps[·]?))
 | [] => .nil
 | i :: is => by
   have hl := r.length
   induction hp : ps[i]? with
   | none =>
     have : vs[i]? = none := by
      rw [SU] at hp ⊢; lia
     simp only [ao, hp, this]
     exact r.pick is
   | some p =>
     obtain ⟨v, hv, hr⟩ := r.get hp
     simp only [ao, hp, hv]
     exact .cons hr (r.pick is)
theorem kP {x : Str} {t u : Tok} {i : Int} {Q E : Pu -> Py -> Prop} (hh : A.handled = none) (hr : (decide (i < -(2 ^ 63 : Int)) || decide (i ≥ 2 ^ 63)) = false) (hc : (UD i x.length).bind (x.cps[·]?) = none)
 (h : ∀ h' tk e, bG s.heap h' e "IndexError" -> E (.ref e) { s with heap := h', toks := tk }) : PQ (MM w) A (getItem (.str x t) (.int i u)) Q E s := by
 refine getItem_meets (S := raisesNew "IndexError") (Sw s x t) (by decide) F.slot_str_getitem F.entry_str_getitem (F.args_str_getitem_2 _ _) ?_ ⟨hh, h⟩
 show Meets (if (decide (i < -(2 ^ 63 : Int)) || decide (i ≥ 2 ^ 63)) = true then _ else
  match (UD i x.length).bind (x.cps[·]?) with
  | some c => PySem.retStr ⟨#[c]⟩
  | none => _) _
 rw [hr, hc]
 exact .rule (.raises rfl plainExc_IndexError)
theorem ww.ofNew {h h' : PP} {e : PE} {cls : String} (x : bG h h' e cls) : ww h h' e { cls := cls, msg := none, here := true } := by
 obtain ⟨k, nw, ob, t, h1, h2, h3⟩ := x
 exact ⟨ob, _, t, ⟨h1, h2, h3, rfl, fun m hm => (nomatch hm), nw⟩, rfl⟩
theorem zn {slice : Expr} {o i : Pu} (h : vc slice = false) : subscripted slice false o i = operate [o, i] (getItem o i) := by
 induction slice using PC <;> first | rfl | cases h
theorem gV {h : PP} {k : Str} {kvs : List (Str × Pu)} {l : Loc} {p : PV} (r : RvD hT ρ h kvs l) : x9 l k = some p -> ∃ v, b8 kvs k = some v /\ Rv hT ρ h v p := by
 unfold x9 b8
 induction r with
 | nil => exact fun e => no e
 | @cons k' v p' vs ps a r ih =>
   rw [As, As]
   induction (decide (k' = k)) with
   | true => exact fun e => ⟨v, rfl, qk e ▸ a⟩
   | false => exact ih
theorem j8 (k : Str) (t : Tok) : To k (.str k t) = true := by simp [To]
theorem Fq {c : Nat} : (⟨#[c]⟩ : Str).length <= Pr := (by decide : 1 <= Pr)
theorem Jn {slice value : Expr} {a b : Pu} {x : Str} {t u : Tok} {i : Int} (S : SR w hT ρ μ s.heap) (R : jX A n) (hs : vc slice = false) : Sim w hT A (Rv hT) ρ s (aE value slice (.str x t) (.int i u)) (W9 x i μ) := by
 refine Sim.of0 fun r μ' hm Q E P => ?_
 refine AO (Sw s x t) F.slot_str_getitem.lookup ?_ (zn hs)
 have out : x.length = 0 -> (i = 0 \/ i = -1) -> Fw xI μ = some (r, μ') -> PQ (MM w) A (getItem (.str x t) (.int i u)) Q E s := by
  intro h0 hi hm
  refine kP R.1 (by rcases hi with rfl | rfl <;> rfl) ?_ fun h' tk e hn => (P.of hm).err e h' tk ρ _ rfl (Le.of_keeps hn.keeps) (S.keeps hn.keeps) (ww.ofNew hn)
  rcases hi with rfl | rfl <;> simp [UD, h0]
 unfold W9 at hm
 by_cases hi : i = 0
 ·rw [if_pos hi] at hm
  by_cases h0 : x.length = 0
  ·rw [if_pos h0] at hm; exact out h0 (.inl hi) hm
  ·rw [if_neg h0] at hm
   subst hi
   have hlt : 0 < x.cps.size := aM h0
   refine aq (c := x.cps.getD 0 0) rfl ?_ (P.pret hm S (.str _ _ Fq))
   have : UD 0 x.length = some 0 := by unfold UD; simp [Sa, hlt]
   rw [this]; simp [aN, hlt]
 ·rw [if_neg hi] at hm
  obtain ⟨hi, hm1⟩ := ifT hm
  clear hm
  by_cases h0 : x.length = 0
  ·rw [if_pos h0] at hm1; exact out h0 (.inr hi) hm1
  ·rw [if_neg h0] at hm1
   subst hi
   refine aq (c := x.cps.getD (x.length - 1) 0) rfl ?_ (P.pret hm1 S (.str _ _ Fq))
   have h2 : x.length - 1 < x.cps.size := Nat.sub_lt (aM h0) Nat.one_pos
   have : UD (-1) x.length = some (x.length - 1) := by
    rw [seqIndex_neg (by lia) (by simp only [Sa]; lia)]
    congr 1; simp only [Sa]; lia
   rw [this]
   simp [aN, h2]
theorem GW {value slice : Expr} {a b : Pu} {p q : PV} (S : SR w hT ρ μ s.heap) (R : jX A n) (hs : vc slice = false) (ra : Rv hT ρ s.heap a p) (rb : Rv hT ρ s.heap b q) :
 Sim w hT A (Rv hT) ρ s (aE value slice a b) (za p q μ) := by
 unfold za
 induction hq : zx q with
 | none =>
   refine Sim.of0 fun r μ' hm Q E P => ?_
   obtain ⟨k, hk, hm⟩ := bnd hm
   obtain ⟨m, h1, hm⟩ := bnd hm
   obtain ⟨l, h2, hm⟩ := bnd hm
   obtain ⟨v, hv, hm⟩ := mp' hm
   obtain ⟨t, rfl, _⟩ := rb.sI hk
   obtain ⟨a, rfl, hn⟩ := ra.lI h1
   obtain ⟨kvs, hd, hr⟩ := S.dictAt hn h2
   obtain ⟨u, hu, hru⟩ := gV hr hv
   exact AO hd.mapOf.typeIs slot_dict_getitem.lookup (wpAny_getItem_of (knd := strKind prog w) (k := k) (j8 k t) hd.mapOf hu (P.pret hm S hru)) (zn hs)
 | some i =>
   obtain ⟨u, rfl⟩ := rb.iI hq
   show Sim w hT A (Rv hT) ρ s _ (HR p i μ)
   unfold HR
   induction hp : qx p with
   | some x => obtain ⟨t, rfl, _⟩ := ra.sI hp; exact Jn (b := .none) (a := .none) S R hs
   | none =>
     refine Sim.of0 fun r μ' hm Q E P => ?_
     induction ht : wB p with
     | some l =>
       rw [ht] at hm
       obtain ⟨hi, hm⟩ := ifT hm
       obtain ⟨v, hv, hm⟩ := mp' hm
       obtain ⟨a, vs, rfl, hta, hl⟩ := ra.tI ht
       obtain ⟨y, hu, hr⟩ := hl.get hv
       have hlt := (R0.mp hu).1
       refine item_tupleT hta (by lia) (by lia) (j := i.toNat) ?_ hu (P.pret (tk := s.toks) hm S hr) (zn hs)
       unfold UD
       rw [if_neg (show ¬ i < 0 by lia), if_pos (by simp only [Rl, decide_eq_true_eq]; lia)]
     | none =>
       rw [ht] at hm
       obtain ⟨l, hl, hm⟩ := bnd hm
       obtain ⟨a, m, vs, _, hn, rfl, hp, hv, hlv, hlen⟩ := ra.list S hl
       refine AO (PlainList.isList hp).typeIs UU.lookup ?_ (zn hs)
       by_cases hi : 0 <= i
       ·rw [if_pos hi] at hm
        obtain ⟨v, hv', hm⟩ := mp' hm
        obtain ⟨y, hu, hr⟩ := hv.get hv'
        have hlt := (R0.mp hu).1
        exact wpAny_getItem_list (PlainList.isList hp) hi (by lia) (by simpa using hu) (P.pret (tk := s.toks) hm S hr)
       ·rw [if_neg hi] at hm
        obtain ⟨hi, hm1⟩ := ifT hm
        obtain ⟨v, hv', hm1⟩ := mp' hm1
        clear hm
        subst hi
        rw [List.getLast?_eq_getElem?] at hv'
        obtain ⟨y, hu, hr⟩ := hv.get hv'
        have hlt := (R0.mp hu).1
        refine wpAny_getItem_list_neg (PlainList.isList hp) (by lia) (by simp only [RV]; lia) (by lia) ?_ (P.pret (tk := s.toks) hm1 S hr)
        rw [show ((-1 : Int) + (vs.toArray.size : Int)).toNat = l.length - 1 by simp only [RV]; lia]; simpa using hu
def RvO (hT : PP) (ρ : List PE) (h : PP) : Pu -> Option PV -> Prop
 | v, none => v = .none
 | v, some p => Rv hT ρ h v p
theorem zf {l sl : PE} {vs : List Pu} {ps : List PV} {i : Int} {t : Tok} {r : Except Exn PV} {μ' : q4} {Q E : Pu -> Py -> Prop} (S : SR w hT ρ μ s.heap) (hl : s.heap.IsList l vs.toArray) (hv : RvL hT ρ s.heap vs ps) (hlen : ps.length <= Pr)
 (hs : s.heap.IsSliceOf sl .none (.int i t) .none) (hm : jr (gO ps none (some i)) μ = some (r, μ')) (P : xT w hT (Rv hT) ρ s r μ' Q E) : PQ (MM w) A (getItem (.ref l) (.ref sl)) Q E s := by
 obtain ⟨hlen2, hm⟩ := zI hm
 have hlv := RvL.length hv
 refine wpAny_getItem_list_slice hl hs .none (.int i t) .none (by simp) ?_ (by simp only [RV]; lia)
 have e2 : slicePick vs.toArray none (some i) none = ((Af (Sz none (some i) none ps.length).1 (Sz none (some i) none ps.length).2.1 (Sz none (some i) none ps.length).2.2).filterMap (vs[·]?)).toArray := by
  unfold slicePick
  simp only [RV, hlv, List.getElem?_toArray]
 rw [e2]
 exact xe S (hv.pick _) hlen2 hm P (tk := s.toks)
theorem Bj {h : PP} : ∀ {vs : List Pu} {l : List Int}, bU vs l -> RvL hT ρ h vs (l.map .int) := by
 intro vs l hi
 induction hi with
 | nil => exact .nil
 | cons => exact .cons (.int _ _) (by assumption)
theorem VW {value : Expr} {lower upper : Option Expr} {pos : Pos} {sl : PE} {a vl vu : Pu} {p : PV} {lo hi : Option PV} (S : SR w hT ρ μ s.heap) (ra : Rv hT ρ s.heap a p) (rl : RvO hT ρ s.heap vl lo) (ru : RvO hT ρ s.heap vu hi)
 (hsl : s.heap.IsSliceOf sl vl vu .none) : Sim w hT A (Rv hT) ρ s (aE value (.Slice lower upper none pos) a (.ref sl)) (wM p lo hi μ) := by
 refine Sim.of0 fun r μ' hm Q E P => ?_
 obtain ⟨j, hj, hm1⟩ := bnd hm
 clear hm
 obtain ⟨q, rfl, hj⟩ := bnd hj
 obtain ⟨u', rfl⟩ := Rv.iI ru hj
 induction lo with
 | some pl =>
   obtain ⟨i, hi, hm⟩ := bnd hm1
   obtain ⟨x, hx, hm⟩ := bnd hm
   obtain ⟨u, rfl⟩ := Rv.iI rl hi
   obtain ⟨t, rfl, _⟩ := ra.sI hx
   obtain ⟨h1, hm⟩ := wj hm
   exact AO (Sw s x t) F.slot_str_getitem.lookup (wpAny_getItem_str_slice (l := some (i, u)) (u := some (j, u')) (st := none) hsl rfl (post_val_or_str ⟨h1, fun t' k => P.pret hm S (.str _ _ h1)⟩)) rfl
 | none =>
   cases (show vl = U1 from rl)
   dsimp only at hm1
   induction hp : DU p with
   | some l =>
     rw [hp] at hm1
     obtain ⟨hlen, hm⟩ := ifT hm1
     obtain ⟨a, vs, rfl, hl, hi⟩ := ra.ilI hp
     have hl' : s.heap.IsList _ _ := let ⟨o, ho, x⟩ := hl; ⟨o, S.top _ _ ho, x⟩
     exact AO hl'.typeIs UU.lookup (zf S hl' (Bj hi) (by simpa using hlen) hsl hm P) rfl
   | none =>
     rw [hp] at hm1
     obtain ⟨l, hl, hm⟩ := bnd hm1
     obtain ⟨hlen, hm⟩ := ifT hm
     obtain ⟨a, m, vs, _, hn, rfl, hp, hv, _, _⟩ := ra.list S hl
     exact AO (PlainList.isList hp).typeIs UU.lookup (zf S (PlainList.isList hp) hv hlen hsl hm P) rfl
end
section
open PySem.Builtin PySem.Builtin.Str
section
variable {w : Rk} {hT : PP} {A : RE} {ρ : List PE} {μ : q4} {s : Py} {n : Nat}
theorem vZ {n : Nat} (h : n <= Pr) : tooLong n = false := by
 unfold tooLong; rw [sizeLine_eq] at *; exact decide_eq_false (by lia)
theorem RvL.strs {h : PP} {l : List (Str × Tok)} (hh : ∀ y ∈ l.map (·.1), y.length <= Pr) : RvL hT ρ h (bo l) ((l.map (·.1)).map .str) := by
 induction l with
 | nil => exact .nil
 | cons q l ih => exact .cons (.str q.1 q.2 (hh q.1 (.head _))) (ih fun y hy => hh y (.tail _ hy))
def Qd (s : Py) (v : Pu) (name : Str) (id : String) : Prop :=
 ∃ T, PlainAttrs T /\ Slot T name id /\ cr (.builtin id) = pure (.type "method_descriptor") /\ s.TypeIs v T /\ (∀ a, v = .ref a -> ∃ ob, s.heap.get? a = some ob /\ ob.dict = none)
theorem N9 {p : Str × String -> Prop} {a b : Str × String} (h1 : p a) (h2 : p b) : ∀ q ∈ [a, b], p q := RH.mpr ⟨h1, RH.mpr ⟨h2, fun zz h => nomatch h⟩⟩
theorem Gw : ∀ q ∈ vI, Slot "str" q.1 q.2 /\ cr (.builtin q.2) = pure (.type "method_descriptor") :=
 RH.mpr ⟨⟨F.slot_str_lower, F.type_str_lower⟩, RH.mpr ⟨⟨F.slot_str_upper, F.type_str_upper⟩, RH.mpr ⟨⟨F.slot_str_swapcase, F.type_str_swapcase⟩, RH.mpr ⟨⟨F.slot_str_strip, F.type_str_strip⟩, RH.mpr ⟨⟨F.slot_str_join, F.type_str_join⟩, RH.mpr ⟨⟨F.slot_str_replace, F.type_str_replace⟩, N9 ⟨F.slot_str_split, F.type_str_split⟩ ⟨F.slot_str_rstrip, F.type_str_rstrip⟩⟩⟩⟩⟩⟩⟩
theorem Fr : ∀ q ∈ gJ, Slot "list" q.1 q.2 /\ cr (.builtin q.2) = pure (.type "method_descriptor") := N9 ⟨F.slot_list_append, F.type_list_append⟩ ⟨F.slot_list_extend, F.type_list_extend⟩
theorem wz {x : Str} {t : Tok} {name : Str} {id : String} (h : vI.lookup name = some id) : Qd s (.str x t) name id :=
 have q := Gw _ (mem_of_lookup h)
 ⟨"str", F.plainAttrs_str, q.1, q.2, Sw _ _ _, fun zz e => nomatch e⟩
theorem w5 {a : PE} {vs : Array Pu} {name : Str} {id : String} (hp : s.heap.PlainList a vs) (h : gJ.lookup name = some id) : Qd s (.ref a) name id :=
 have q := Fr _ (mem_of_lookup h)
 let ⟨_, hp⟩ := hp
 ⟨"list", F.plainAttrs_list, q.1, q.2, ⟨_, hp, rfl⟩, fun b e => by injection e with e; subst e; exact ⟨_, hp, rfl⟩⟩
theorem kr (its its2 : Array Pu) (n : Nat) :
 bZ (fun x => x ++ its2) { cls := .type "list", data := .seq its n } = { cls := .type "list", data := .seq (its ++ its2) (if (its ++ its2).size == its.size then n else n + 1) } := rfl
theorem Qj {x : Str} {t : Tok} {name : Str} {id : String} {vs : List Pu} {ps : List PV} (hx : x.length <= Pr) (S : SR w hT ρ μ s.heap) (rvs : RvL hT ρ s.heap vs ps) (h : vI.lookup name = some id) :
 Sim w hT A (Rv hT) ρ s (call (.builtin id) (.str x t :: vs)) (j0 (.str x) name ps μ) := by
 refine Sim.of0 fun r μ' (hm : (if ps.isEmpty then (YH.lookup name).bind fun f => yx (f x) μ else (one ps).bind fun v => if name == ("join" : Str) then ES x v μ else none) = some (r, μ')) Q E P => ?_
 cases rvs with
 | nil =>
   obtain ⟨f, hf, hm⟩ := bnd hm
   obtain ⟨h1, hm⟩ := wj hm
   have key : ∀ q ∈ YH, vI.lookup q.1 = some id -> q.2 x = f x -> PQ (MM w) A (call (.builtin id) [.str x t]) Q E s :=
    RH.mpr ⟨fun e q => qk (show some "str.lower" = some id from e) ▸ SC.lower (vZ (by rw [show Pt x = f x from q]; exact h1)) (P.pret hm S (by rw [show Pt x = f x from q]; exact .str _ _ h1)),
     RH.mpr ⟨fun e q => qk (show some "str.upper" = some id from e) ▸ SC.upper (vZ (by rw [show Tl x = f x from q]; exact h1)) (P.pret hm S (by rw [show Tl x = f x from q]; exact .str _ _ h1)),
     RH.mpr ⟨fun e q => qk (show some "str.swapcase" = some id from e) ▸ SC.swapcase (vZ (by rw [show Sk x = f x from q]; exact h1)) (P.pret hm S (by rw [show Sk x = f x from q]; exact .str _ _ h1)),
     RH.mpr ⟨fun e q => qk (show some "str.strip" = some id from e) ▸ SC.strip (fun t' k => P.pret hm S (by rw [show RT x = f x from q]; exact .str _ _ h1)) hx, fun zz h => nomatch h⟩⟩⟩⟩
   exact key (name, f) (mem_of_lookup hf) h rfl
 | @cons v p vs ps r1 r2 =>
   obtain ⟨p', hp, hm⟩ := bnd (o := one (p :: ps)) hm
   cases jM hp
   cases r2
   obtain ⟨e, hm⟩ := ifT hm
   obtain ⟨l, hl, hm⟩ := bnd hm
   obtain ⟨ts, hts, hm⟩ := bnd hm
   obtain ⟨hg, hm⟩ := ifT hm
   rw [qb e] at h; cases h
   obtain ⟨a, _, us, _, _, rfl, hp, hv, _⟩ := r1.list S hl
   obtain ⟨k, rfl, h2, _⟩ := VD hv hts
   exact SC.join (PlainList.isList hp) h2 (an hg).1 fun t' k => P.pret hm S (.str _ _ (of_decide_eq_true (an hg).2))
theorem QD {a : PE} {m : Nat} {h' : PP} {ws : List Pu} {l : List PV} {r : Except Exn PV} {μ' : q4} {Q E : Pu -> Py -> Prop} (P : xT w hT (Rv hT) ρ s r μ' Q E) (S : SR w hT ρ μ s.heap) (hn : ρ[m]? = some a) (hs : RK a s.heap h') (hp : h'.PlainList a ws.toArray)
 (hv : Kv s.heap h' -> RvL hT ρ h' ws l) (hl : l.length <= Pr + 1) (hm : some ((.ok .none : Except Exn PV), qj μ m (.list l)) = some (r, μ')) : Q .none { s with heap := h' } :=
 have ha : a ∈ ρ := Rr hn
 (P.of hm).ok .none h' s.toks ρ .none rfl (Le.set ha hs (let ⟨_, q⟩ := hp; ⟨_, q⟩)) (S.set hn hs ⟨hl, ws, hp, hv (S.kvSet ha hs)⟩) .none
theorem gG {m : Nat} {a : PE} {v : Pu} {p : PV} (hn : ρ[m]? = some a) (S : SR w hT ρ μ s.heap) (r1 : Rv hT ρ s.heap v p) : Sim w hT A (Rv hT) ρ s (call (.builtin "list.append") [.ref a, v]) (y6 m p μ) := by
 refine Sim.of0 fun r μ' hm Q E P => ?_
 obtain ⟨l, hl, hm⟩ := bnd hm
 obtain ⟨hlen, hm⟩ := ifT hm
 obtain ⟨_, us, hp, hv⟩ := S.listAt hn hl
 refine A7 hp (fun h' hp' hs' => ?_) (by rw [RV, hv.length]; exact RL hlen)
 rw [show us.toArray.push v = (us ++ [v]).toArray by simp] at hp'
 exact QD P S hn hs' hp' (fun kv => (hv.mono ⟨[], (PS _).symm⟩ kv).append (.cons (r1.mono ⟨[], (PS _).symm⟩ kv) .nil)) (by rw [PB]; exact Ru hlen) hm
theorem Y7 {m : Nat} {a : PE} {v : Pu} {p : PV} (hn : ρ[m]? = some a) (S : SR w hT ρ μ s.heap) (r1 : Rv hT ρ s.heap v p) : Sim w hT A (Rv hT) ρ s (call (.builtin "list.extend") [.ref a, v]) (JL m p μ) := by
 refine Sim.of0 fun r μ' hm Q E P => ?_
 obtain ⟨l, hl, hm⟩ := bnd hm
 obtain ⟨j, hj, hm⟩ := bnd hm
 obtain ⟨_, hm⟩ := ifF hm
 obtain ⟨k, hk, hm⟩ := bnd hm
 obtain ⟨hlen, hm⟩ := ifT hm
 obtain ⟨b, rfl, hn2⟩ := r1.lI hj
 obtain ⟨_, us, ⟨c, hp⟩, hv⟩ := S.listAt hn hl
 obtain ⟨_, us2, ⟨c2, hp2⟩, hv2⟩ := S.listAt hn2 hk
 have hsz : us.toArray.size + us2.toArray.size <= Pr := by rw [RV, RV, hv.length, hv2.length]; exact hlen
 have e24 := GG
 refine T2 F.slot_list_extend ⟨_, hp, rfl⟩ F.entry_list_extend (F.args_list_extend_2 _ _) (AutoSeq1.list_extend_list_list_0 a us.toArray c b us2.toArray c2 (extend_door hsz) (by lia) (by lia)) ⟨hp, hp2, ?_⟩
 have ho' : (s.heap.update a (bZ fun x => x ++ us2.toArray)).get? a = some { cls := .type "list", data := .seq (us ++ us2).toArray (if (us.toArray ++ us2.toArray).size == us.toArray.size then c else c + 1) } := by
  rw [SP _ hp (by rw [kr]; rfl), kr, List.append_toArray]
 exact QD P S hn (TI ..) ⟨_, ho'⟩ (fun kv => (hv.mono ⟨[], (PS _).symm⟩ kv).append (hv2.mono ⟨[], (PS _).symm⟩ kv)) (by rw [PB]; exact Ru hlen) hm
theorem gM {m : Nat} {a : PE} {name : Str} {id : String} {vs : List Pu} {ps : List PV} (hn : ρ[m]? = some a) (S : SR w hT ρ μ s.heap) (rvs : RvL hT ρ s.heap vs ps) (h : gJ.lookup name = some id) :
 Sim w hT A (Rv hT) ρ s (call (.builtin id) (.ref a :: vs)) (j0 (.loc m) name ps μ) := by
 intro ht r μ' (hm : ((one ps).bind fun v => if name == ("append" : Str) then y6 m v μ else if name == ("extend" : Str) then JL m v μ else none) = some (r, μ')) Q E P
 obtain ⟨p, hp, hm⟩ := bnd hm
 cases jM hp
 cases rvs with | cons r1 r2 =>
 cases r2
 cases e : (name == ("append" : Str)) with
 | true =>
   rw [e] at hm
   rw [qb e] at h; cases h
   exact gG hn S r1 ht _ _ hm Q E P
 | false =>
   rw [e] at hm
   obtain ⟨e, hm⟩ := ifT hm
   rw [qb e] at h; cases h
   exact Y7 hn S r1 ht _ _ hm Q E P
theorem Cp {x y : Str} {t u : Tok} {Q E : Pu -> Py -> Prop} (hy : (y.length == 0) = false) (hsz : x.length + 2 <= Pr)
 (h : ∀ l tk, l.map (·.1) = SF x y -> Q (.ref s.heap.objs.size) { s with heap := s.heap.push { cls := .type "list", data := .seq (bo l).toArray }, toks := tk }) :
 PQ (MM w) A (call (.builtin "str.split") [.str x t, .str y u]) Q E s := by
 have hn : (partsBetween x (occurrences x y 0 x.length (x.length + 1)) y.length).length <= Pr := by
  have e1 := UO x y 0 x.length (x.length + 1)
  rw [ar]; lia
 cases h1 : (decide (x.length < y.length) || decide (TJ x < TJ y))
 ·cases hf : (occurrences x y 0 x.length (x.length + 1)).isEmpty
  ·refine T2 F.slot_str_split (Sw _ _ _) F.entry_str_split (F.args_str_split_2 _ _) (meets_str_split_sep x y t u h1 hy hf (by lia) hn) ?_
   show wants Q E _ { s with toks := _, heap := s.heap.push { cls := .type "list", data := .seq (strsFrom s.toks (partsBetween x (occurrences x y 0 x.length (x.length + 1)) y.length)).toArray } }
   rw [strsFrom_eq]
   exact h (numbered s.toks _) _ ((numbered_texts _ _).trans ((if_neg (ne_true_of_eq_false h1)).trans (if_neg (ne_true_of_eq_false hf))).symm)
  ·exact T2 F.slot_str_split (Sw _ _ _) F.entry_str_split (F.args_str_split_2 _ _) (meets_str_split_not_found x y t u h1 hy hf)
    (h [(x, t)] s.toks ((if_neg (ne_true_of_eq_false h1)).trans (if_pos hf)).symm)
 ·exact T2 F.slot_str_split (Sw _ _ _) F.entry_str_split (F.args_str_split_2 _ _) (meets_str_split_cannot_occur x y t u h1)
   (h [(x, t)] s.toks (if_pos h1).symm)
theorem Yi {x y : Str} {t u v : Tok} {k : Int} {Q E : Pu -> Py -> Prop} (hy : (y.length == 0) = false) (hsz : x.length + 2 <= Pr) (hk : (decide (k < -(2 ^ 63 : Int)) || decide (k ≥ 2 ^ 63)) = false)
 (h : ∀ l tk, l.map (·.1) = TA x y k -> Q (.ref s.heap.objs.size) { s with heap := s.heap.push { cls := .type "list", data := .seq (bo l).toArray }, toks := tk }) :
 PQ (MM w) A (call (.builtin "str.split") [.str x t, .str y u, .int k v]) Q E s := by
 have hn : (partsBetween x (occurrences x y 0 x.length (bV x k)) y.length).length <= Pr := by
  have e1 := UO x y 0 x.length (bV x k)
  rw [ar]; lia
 cases h1 : (decide (x.length < y.length) || decide (TJ x < TJ y))
 ·cases hf : (occurrences x y 0 x.length (bV x k)).isEmpty
  ·refine T2 F.slot_str_split (Sw _ _ _) F.entry_str_split (F.args_str_split_3 _ _ _) (meets_str_split_sep_max x y k t u v hk h1 hy hf (by lia) hn) ?_
   show wants Q E _ { s with toks := _, heap := s.heap.push { cls := .type "list", data := .seq (strsFrom s.toks (partsBetween x (occurrences x y 0 x.length (bV x k)) y.length)).toArray } }
   rw [strsFrom_eq]
   exact h (numbered s.toks _) _ ((numbered_texts _ _).trans ((if_neg (ne_true_of_eq_false h1)).trans (if_neg (ne_true_of_eq_false hf))).symm)
  ·exact T2 F.slot_str_split (Sw _ _ _) F.entry_str_split (F.args_str_split_3 _ _ _) (meets_str_split_max_not_found x y k t u v hk h1 hy hf)
    (h [(x, t)] s.toks ((if_neg (ne_true_of_eq_false h1)).trans (if_pos hf)).symm)
 ·exact T2 F.slot_str_split (Sw _ _ _) F.entry_str_split (F.args_str_split_3 _ _ _) (meets_str_split_max_cannot_occur x y k t u v hk h1)
   (h [(x, t)] s.toks (if_pos h1).symm)
theorem Z9 {env : Env} {e : Expr} {es : List Expr} (h : qf e = false) : Sr (e :: es) env = (false, eval e env) :: Sr es env := by induction e using PC <;> first | rfl | cases h
theorem fq {env : Env} {args : List Expr} (h : args.all (!qf ·) = true) : Sr args env = args.map fun e => (false, eval e env) := by
 induction args with
 | nil => rfl
 | cons e es ih => rw [Z9 (nt (an h).1), ih (an h).2]; rfl
theorem q9 {env : Env} {pos : Pos} {args : List Expr} (h : args.all (!qf ·) = true) : Tc pos (Sr args env) = args.map fun e => (false, eval e env) := by
 rw [fq h]
 unfold Tc
 rw [Su]
 rfl
theorem w0 {M : U9} {pos : Pos} {id : String} {first : List Pu} {x : Sem Pu} {Q E : Pu -> Py -> Prop} (h : PQ M A x (fun v s₁ => PQ M A (call (.builtin id) (first ++ [v])) Q E s₁) E s) : PQ M A (Tj pos (.builtin id) first [(false, x)] []) Q E s :=
 callWith_builtin rfl (AP (spliced_cons (RG h (fun zz zz h₁ => Ta h₁) fun zz zz e => e)))
theorem kj {M : U9} {pos : Pos} {id : String} {first : List Pu} {x y : Sem Pu} {Q E : Pu -> Py -> Prop} (h : PQ M A x (fun v s₁ => PQ M A y (fun u s₂ => PQ M A (call (.builtin id) (first ++ [v, u])) Q E s₂) E s₁) E s) : PQ M A (Tj pos (.builtin id) first [(false, x), (false, y)] []) Q E s :=
 callWith_builtin rfl (AP (spliced_cons (RG h (fun zz zz h₁ => spliced_cons (RG h₁ (fun zz zz h₂ => Ta h₂) fun zz zz e => e)) fun zz zz e => e)))
theorem xM {e : Expr} {es : List Expr} {cs : List Um} (h : jp (e :: es) = some cs) : ∃ c k p cs', e = .Constant c k p /\ jp es = some cs' /\ cs = c :: cs' := by
 obtain ⟨c, h1, h⟩ := bnd h
 obtain ⟨cs', h2, h⟩ := mp' h
 obtain ⟨k, p, h1⟩ := xw h1
 exact ⟨c, k, p, cs', h1, h2, (qk h).symm⟩
theorem vr {es : List Expr} (h : jp es = some []) : es = [] := by
 induction es using PD with
 | nil => rfl
 | cons e es => obtain ⟨_, _, _, _, _, _, h⟩ := xM h; cases h
theorem Wo {es : List Expr} {c : Um} (h : jp es = some [c]) : ∃ k p, es = [.Constant c k p] := by
 induction es using PD with
 | nil => cases h
 | cons e es =>
   obtain ⟨c, k, p, cs, rfl, h2, h3⟩ := xM h
   cases h3
   cases vr h2
   exact ⟨k, p, rfl⟩
theorem Dw {es : List Expr} {c d : Um} (h : jp es = some [c, d]) : ∃ k p k' p', es = [.Constant c k p, .Constant d k' p'] := by
 induction es using PD with
 | nil => cases h
 | cons e es =>
   obtain ⟨c, k, p, cs, rfl, h2, h3⟩ := xM h
   cases h3
   obtain ⟨k', p', rfl⟩ := Wo h2
   exact ⟨k, p, k', p', rfl⟩
theorem Fb {x z : Nat} (h : x <= 1048576) (h3 : z <= 14) : x + (x + 1) * z <= 16777216 := by
 have : (x + 1) * z <= (x + 1) * 14 := TK _ h3
 lia
theorem le2 {x : Nat} (h : x <= 16000000) : x + 2 <= Pr := by rw [GG]; lia
theorem le0 {x y : Nat} (h : x <= 16000000) (h' : y <= x) : y <= Pr := by rw [GG]; lia
theorem Yf {x : Str} {t : Tok} {name : Str} {id : String} {args : List Expr} {cs : List Um} {pos : Pos} {env : Env} (hx : x.length <= Pr) (S : SR w hT ρ μ s.heap) (hc : jp args = some cs) (h : vI.lookup name = some id) :
 Sim w hT A (Rv hT) ρ s (Tj pos (.builtin id) [.str x t] (Tc pos (Sr args env)) []) (jW x name cs μ) := by
 refine Sim.of1 fun ht1 r μ' hm Q E P => ?_
 induction cs using PD with
 | nil => exact no hm
 | cons c cs =>
 obtain ⟨y, hy, hm1⟩ := bnd hm
 clear hm
 obtain ⟨hg, hm⟩ := ifB hm1
 cases gR hy
 have g1 := of_decide_eq_false (orF (orF hg).1).1
 have g3 := Sh.mp (of_decide_eq_false (orF hg).2)
 have g1' : (y.length == 0) = false := beq_eq_false_iff_ne.mpr g1
 induction cs using PD with
 | nil =>
   clear hm1
   obtain ⟨_, _, rfl⟩ := Wo hc
   rw [q9 rfl]
   cases hn : (name == ("split" : Str)) with
   | true =>
     rw [qb hn] at h; cases h
     rw [hn] at hm
     obtain ⟨hlen, hm⟩ := zI hm
     exact w0 (Sj (Cp g1' (le2 g3) fun l tk hl => xe (k := 0) S (RvL.strs (l := l) fun y hy => le0 g3 (part_short (hl ▸ hy))) (by rw [hl]; exact hlen) (by rw [hl]; exact hm) P))
   | false =>
     rw [hn] at hm
     obtain ⟨hn, hm⟩ := ifT hm
     rw [qb hn] at h; cases h
     refine w0 (Sj (SC.rstripChars (fun t' k => P.pret hm S (.str _ _ ?_)) hx))
     unfold Ar bH
     by_cases hc : (y.length == 0) = true
     ·rw [g1'] at hc; exact noB hc
     ·split
      ·exact hx
      ·exact fits_stripped _ _ _ hx
 | cons d ds =>
   clear hm1
   obtain ⟨hds, hm1⟩ := ifB hm
   clear hm
   cases Rf.mp (show ds.isEmpty = true by cases q : ds.isEmpty <;> simp [q] at hds ⊢)
   obtain ⟨_, _, _, _, rfl⟩ := Dw hc
   rw [q9 rfl]
   induction hd : CR d with
   | some k =>
     rw [hd] at hm1
     obtain ⟨hg, hm⟩ := ifT hm1
     cases XK hd
     rw [qb (an hg).1] at h; cases h
     cases of_decide_eq_true (an hg).2
     obtain ⟨hlen, hm⟩ := zI hm
     exact kj (Sj (U2 (Yi g1' (le2 g3) rfl fun l tk hl => xe (k := 0) S (RvL.strs (l := l) fun y hy => le0 g3 (partMax_short (hl ▸ hy))) (by rw [hl]; exact hlen) (by rw [hl]; exact hm) P)))
   | none =>
     rw [hd] at hm1
     obtain ⟨z, hz, hm⟩ := bnd hm1
     obtain ⟨hg, hm⟩ := ifT hm
     cases gR hz
     have h4 := an hg
     have h3 := an h4.1
     have h1 := an h3.1
     rw [qb (an h1.1).1] at h; cases h
     have hb := Fb (of_decide_eq_true h4.2) (of_decide_eq_true h3.2)
     refine kj (Sj (Sj (SC.replace (RZ ht1) (Nat.succ_ne_zero _) (RQ (RU _)) (nt (an h1.1).2) hb fun t' k => P.pret hm S (.str _ _ ?_))))
     unfold SA
     split
     ·exact hx
     ·exact fits_replaced y hb
end
end
section
open PySem.Builtin
theorem ku : Slot "re.Pattern" "search" "re.Pattern.search" :=
 .of (owner := "re.Pattern") (n := "search") (by rw [TW, SN]; kernel_rfl) (by decide +kernel) (by decide +kernel) (by decide +kernel)
  (by first | exact .inl (by decide +kernel) | exact .inr (by decide +kernel)) (by rw [isSubtype_type]; kernel_rfl)
theorem Xr : cr (.builtin "re.Pattern.search") = pure (.type "method_descriptor") := by show builtinType _ = _; rw [builtinType_eq_fast]; kernel_rfl
theorem Z8 : entryFor table "re.Pattern.search" = some TY.«re.Pattern.search» := entryFor_of_tree (by kernel_rfl)
theorem XE (a b : Pu) : argsOk "re.Pattern.search" ⟨[a, b], []⟩ := by
 unfold argsOk; kernel_rfl
theorem wQ : PlainAttrs "re.Pattern" :=
 ⟨⟨"object.__getattribute__", by rw [TW, SN]; kernel_rfl, by decide +kernel⟩, by rw [TW, SN]; kernel_rfl⟩
theorem YB (x : Str) (t : Tok) : Re.reNamed "re.Pattern.search" "search" ["string", "pos", "endpos"] 1 [.str x t] [] = pure [some (.str x t), none, none] := rfl
structure xN (code : Array Nat) (body : Nat) (f : Nat -> Bool) : Prop where
 info : ah[code.getD 0 0]? = some .INFO
 flag : code.getD 2 0 = 4
 least : code.getD 3 0 = 1
 hdr : 1 + code.getD 1 0 = body
 first : ∀ c seen, ∃ seen', ck code c code.size 5 true seen = .ok (f c, seen')
 inop : ah[code.getD body 0]? = some .IN
 second : ∀ c seen, ∃ seen', ck code c code.size (body + 2) true seen = .ok (f c, seen')
 succ : ah[code.getD (body + (1 + code.getD (body + 1) 0)) 0]? = some .SUCCESS
 lt1 : body < code.size
 lt2 : body + (1 + code.getD (body + 1) 0) < code.size
theorem kF {code : Array Nat} {body : Nat} {f : Nat -> Bool} (O : xN code body f) (m : Uc) (hc : m.code = code) : ∀ (fuel s : Nat) (sn : AQ), m.lim < s + fuel ->
 (∃ seen', m.admitted fuel s sn = .ok (none, seen') /\ ∀ i, s <= i -> i < m.lim -> f (m.text.getD i 0) = false) \/
 (∃ k seen', m.admitted fuel s sn = .ok (some k, seen') /\ s <= k /\ k < m.lim /\ f (m.text.getD k 0) = true)
 | 0, s, sn, h => .inl ⟨sn, rfl, fun i h1 h2 => absurd h (by lia)⟩
 | fuel + 1, s, sn, h => by
   unfold Uc.admitted
   by_cases hs : s ≥ m.lim
   ·rw [if_pos hs]
    exact .inl ⟨sn, rfl, fun i h1 h2 => absurd h1 (by lia)⟩
   ·rw [if_neg hs, hc]
    obtain ⟨seen', e⟩ := O.first (m.text.getD s 0) sn
    rw [e]
    induction hf : f (m.text.getD s 0) with
    | true => exact .inr ⟨s, seen', rfl, PK _, by lia, hf⟩
    | false =>
      rcases kF O m hc fuel (s + 1) seen' (by lia) with ⟨q, e2, h2⟩ | ⟨k, q, e2, h2, h3, h4⟩
      ·refine .inl ⟨q, e2, fun i h1 h3 => ?_⟩
       by_cases hi : i = s
       ·rw [hi]; exact hf
       ·exact h2 i (by lia) h3
      ·exact .inr ⟨k, q, e2, by lia, h3, h4⟩
theorem Eb {m : Uc} {sn : AQ} (ho : m.outcome = none) (ha : m.answer = none) (hpc : m.pc < m.code.size) (hop : ah[m.code.getD m.pc 0]? = some .IN) (hlt : m.pos < m.lim)
 (hin : ck m.code (m.text.getD m.pos 0) m.code.size (m.pc + 2) true (m.seen.add (m.code.getD m.pc 0)) = .ok (true, sn)) :
 m.step = { m with seen := sn, pc := m.pc + (1 + m.code.getD (m.pc + 1) 0), pos := m.pos + 1 } := by
 have h1 : m.step = m.exec := by
  unfold aO
  rw [ho, ha]
  simp only [Td, R7, if_false, hpc, if_true]
 rw [h1]
 unfold Uc.exec
 have h2 : ah[m.word 0]? = some .IN := hop
 rw [h2]
 have h3 : ¬ (m.pos ≥ m.lim) := by lia
 have h4 : Sre.accepts m.code m.pc (m.text.getD m.pos 0) (m.seen.add (m.word 0)) = .ok (true, sn) := by
  unfold Sre.accepts
  simp only [hop]
  exact hin
 simp only [h3, if_false, h4]
 unfold Sre.itemWidth
 simp only [hop]
theorem Jq {m : Uc} (ho : m.outcome = none) (ha : m.answer = none) (hpc : m.pc < m.code.size) (hop : ah[m.code.getD m.pc 0]? = some .SUCCESS) (hw : m.wholeText = false) (hm : m.mustAdvance = false) :
 m.step = { m with seen := m.seen.add (m.code.getD m.pc 0), handed := m.pos, answer := some true } := by
 have h1 : m.step = m.exec := by
  unfold aO
  rw [ho, ha]
  simp only [Td, R7, if_false, hpc, if_true]
 rw [h1]
 unfold Uc.exec
 have h2 : ah[m.word 0]? = some .SUCCESS := hop
 rw [h2]
 simp only [hw, hm, c6, Bool.or_self, Bool.and_false, R7, if_false]
 rfl
theorem VE {m : Uc} {f : Sre.Frame} (ho : m.outcome = none) (ha : m.answer = some true) (hf : m.frames = [f]) (hw : f.wait = .nextStart) :
 ∃ m', m.step = m' /\ m'.outcome = none /\ m'.answer = some true /\ m'.frames = [] := by
 unfold aO
 rw [ho, ha, hf]
 unfold Uc.resume
 simp only [Td, R7, if_false, hw, if_true]
 exact ⟨_, rfl, rfl, rfl, rfl⟩
theorem gN {m : Uc} {b : Bool} (ho : m.outcome = none) (ha : m.answer = some b) (hf : m.frames = []) : m.step.outcome = some (if b then .matched else .failed) := by
 unfold aO
 rw [ho, ha, hf]
 rfl
theorem zP {n : Nat} {m : Uc} (ho : m.outcome = none) : Sl (n + 1) m = Sl n m.step := by
 show (if m.outcome.isSome then m else Sl n m.step) = _
 rw [ho]; rfl
theorem ZM {n : Nat} {m : Uc} {o : Sre.Outcome} (ho : m.outcome = some o) : Sl n m = m := by
 induction n using AN with
 | zero => rfl
 | succ n =>
   show (if m.outcome.isSome then m else Sl n m.step) = _
   rw [ho]; rfl
theorem fX {code : Array Nat} {body : Nat} {f : Nat -> Bool} (O : xN code body f) {m : Uc} {s : Nat} (hc : m.code = code) (hp : m.pc = body) (hs : s < m.lim) (hf : f (m.text.getD s 0) = true)
 (hw : m.weight = 0) (hfr : m.frames = []) (ha : m.answer = none) (ho : m.outcome = none) (hm : m.mustAdvance = false) (hwt : m.wholeText = false) :
 (Sl 4 (m.attemptAt s true)).outcome = some .matched := by
 have e1 : m.attemptAt s true = { m with start := s, pos := s, lastmark := -1, lastindex := -1, frames := [{ wait := .nextStart, pc := m.pc, pos := s, outermost := true }], weight := 1, handed := s, outermost := true } := by
  unfold Uc.attemptAt Uc.attempt
  simp only [hw, hfr]
  rfl
 rw [e1]
 obtain ⟨sn, e⟩ := O.second (m.text.getD s 0) (m.seen.add (m.code.getD m.pc 0))
 rw [hf] at e
 subst hc hp
 rw [zP, Eb (sn := sn), zP, Jq, zP]
 ·obtain ⟨m', e3, h1, h2, h3⟩ := VE (m := { m with start := s, pos := s + 1, lastmark := -1, lastindex := -1, frames := [{ wait := .nextStart, pc := m.pc, pos := s, outermost := true }], weight := 1, handed := s + 1, outermost := true, pc := m.pc + (1 + m.code.getD (m.pc + 1) 0), seen := sn.add (m.code.getD (m.pc + (1 + m.code.getD (m.pc + 1) 0)) 0), answer := some true }) ho rfl rfl rfl
  rw [e3, zP h1]
  exact gN h1 h2 h3
 ·exact ho
 ·exact ho
 ·exact ha
 ·exact O.lt2
 ·exact O.succ
 ·exact hwt
 ·exact hm
 ·exact ho
 ·exact ho
 ·exact ha
 ·exact O.lt1
 ·exact O.inop
 ·exact hs
 ·exact e
 ·exact ho
theorem wE {m : Uc} (ho : m.outcome = none) (ha : m.answer = some false) (hf : m.frames = []) : (Sl 4 m).outcome = some .failed := by
 rw [zP ho, ZM (gN ho ha hf)]
 exact gN ho ha hf
theorem kQ {code : Array Nat} {body : Nat} {f : Nat -> Bool} (O : xN code body f) {m : Uc} (hc : m.code = code) (hp : m.pc = body) (hl : m.lim = m.text.size)
 (hw : m.weight = 0) (hfr : m.frames = []) (ha : m.answer = none) (ho : m.outcome = none) (hwt : m.wholeText = false) :
 (Sl 4 (m.attemptFrom 0 true)).outcome = some (if m.text.toList.any f then .matched else .failed) := by
 unfold Uc.attemptFrom
 have hset : m.hasFirstSet = true := by
  unfold Uc.hasFirstSet
  rw [hc, O.info, O.flag]; rfl
 rw [hset]
 simp only [Bool.not_true, R7, if_false]
 have hany : ∀ b : Bool, (m.text.toList.any f = b) ↔ ((∃ i, i < m.text.size /\ f (m.text.getD i 0) = true) ↔ b = true) := by
  intro b
  have h1 : m.text.toList.any f = true ↔ ∃ i, i < m.text.size /\ f (m.text.getD i 0) = true := by
   rw [List.any_eq_true]
   constructor
   ·rintro ⟨x, hx, hf⟩
    obtain ⟨i, hi, rfl⟩ := ak hx
    refine ⟨i, by simpa using hi, ?_⟩
    simp only [TM] at hi
    simpa [aN, hi] using hf
   ·rintro ⟨i, hi, hf⟩
    refine ⟨m.text.toList[i]'(by simpa using hi), Rx _, ?_⟩
    simpa [aN, hi] using hf
  rw [<- h1]
  cases m.text.toList.any f <;> induction b <;> simp
 rcases kF O m hc (m.lim + 1 - 0) 0 m.seen (by lia) with ⟨sn, e, h1⟩ | ⟨k, sn, e, _, h2, h3⟩
 ·rw [e]
  have : m.text.toList.any f = false := by
   rw [hany]
   simp only [R7, iff_false]
   rintro ⟨i, hi, hf⟩
   rw [h1 i (Rj _) (by lia)] at hf
   cases hf
  rw [this]
  exact wE ho rfl hfr
 ·rw [e]
  have : m.text.toList.any f = true := by
   rw [hany]
   simp only [iff_true]
   exact ⟨k, by lia, h3⟩
  rw [this]
  exact fX O (m := { m with mustAdvance := false, seen := sn }) hc hp h2 h3 hw hfr ha ho rfl hwt
theorem Yo {code : Array Nat} {body : Nat} {f : Nat -> Bool} (O : xN code body f) (text : Array Nat) :
 (Sl 4 (Sre.forSearch code text 0 0 text.size false)).outcome = some (if text.toList.any f then .matched else .failed) := by
 unfold Sre.forSearch
 have hh : Sre.header code = (1, body) := by
  unfold Sre.header
  rw [O.info]
  simp only [O.least, O.hdr]
 rw [hh]
 simp only [Au, decide_false, Bool.false_or, Nat.sub_zero, O.flag]
 by_cases h0 : text.size < 1
 ·have he : text = #[] := by
   apply Array.eq_empty_of_size_eq_zero; lia
  subst he
  simp only [Array.size_empty, c7, decide_true, if_true, gt_iff_lt, Sq, decide_false]
  rw [wE] <;> rfl
 ·simp only [h0, decide_false, gt_iff_lt, R7, if_false]
  exact kQ O rfl (congrArg Rh hh) rfl rfl rfl rfl rfl rfl
theorem yE {M : U9} {A : RE} {E : Pu -> Py -> Prop} {s : Py} {Q : PUnit -> Py -> Prop} {p : Nat -> Bool} {nm : Nat -> String} (h : Q ⟨⟩ s) :
 ∀ l : List Nat, PQ M A (ba l Ui fun i zz => if p i = true then (do rule (nm i); pure (SI Ui)) else pure (SI Ui) : Sem PUnit) Q E s
 | [] => wpAny_pure h
 | i :: l => by
   rw [SJ]
   refine wpAny_bind ?_
   split
   ·exact wpAny_bind (aP (wpAny_pure (yE h l)))
   ·exact wpAny_pure (yE h l)
theorem gY {M : U9} {A : RE} {E : Pu -> Py -> Prop} {s : Py} {Q : Option Uc -> Py -> Prop} {m : Uc} {b : Bool} (hm : (Sl 4 m).outcome = some (if b then .matched else .failed))
 (h : Q (if b then some (Sl 4 m) else none) s) : PQ M A (Re.reRunToEnd m) Q E s := by
 unfold Re.reRunToEnd
 have e : Re.reDrive (2 ^ 64) m = pure (Sl 4 m) := by
  have : (2 : Nat) ^ 64 = 18446744073709551615 + 1 := rfl
  rw [this]
  show (if (Sl 4 m).outcome.isSome then pure (Sl 4 m) else _) = _
  rw [hm]; rfl
 rw [e]
 refine wpAny_bind (wpAny_pure ?_)
 refine wpAny_bind ?_
 refine yE ?_ _
 rw [hm]
 cases b
 ·exact wpAny_pure h
 ·exact wpAny_pure h
theorem JR {p c : PE} {x : Str} {t : Tok} {v0 v1 v3 v4 : Pu} {k0 : Tok} {codes : Array Pu} {n : Nat} {f : Nat -> Bool} {body : Nat} (hx : x.length <= Pr) (O : xN ((codes.map Re.reRawOf).map (·.toNat)) body f) :
 Meets («re.Pattern.search» ⟨[.ref p, .str x t], []⟩) (fun zz R s => s.heap.get? p = some { cls := .type "re.Pattern", data := .fields #[v0, v1, .int 0 k0, v3, v4, .ref c, .int 0 k0] } /\ s.heap.get? c = some { cls := .type "tuple", data := .seq codes n } /\
  if x.cps.toList.any f then ∀ tup o, o.cls = .type "re.Match" -> o.dict = none -> (∃ vs, o.data = .fields vs) -> R (.ok (.ret (.ref ((s.heap.push tup).objs.size)))) { s with heap := (s.heap.push tup).push o } else R (.ok (.ret .none)) s) :=
 .of_wp fun prog w A R s h => by
  obtain ⟨hp, hc, h⟩ := h
  unfold «re.Pattern.search» Re.reTarget
  refine wpAny_bind ?_
  show PQ _ _ (Re.reNamed "re.Pattern.search" "search" ["string", "pos", "endpos"] 1 [.str x t] [] >>= _) _ _ s
  rw [YB]
  refine wpAny_bind (wpAny_pure ?_)
  refine wpAny_bind (wpAny_pure ?_)
  refine wpAny_bind (wpAny_pure ?_)
  refine wpAny_bind (wpAny_fieldsOf hp rfl ?_)
  refine wpAny_bind (m := Re.reTextOf (.str x t)) (UV (a := (x.cps, 0)) rfl ?_)
  show PQ _ _ (Re.reRawItems (.ref c) >>= _) _ _ s
  refine wpAny_bind ?_
  unfold Re.reRawItems
  refine wpAny_bind (AR hc rfl (wpAny_pure ?_))
  refine wpAny_pure ?_
  have e24 : Pr = 16777216 := by decide
  have hx' : x.cps.size <= 16777216 := by rw [<- e24]; exact hx
  have hl : min (((2 : Int) ^ 63 - 1).toNat) x.cps.size = x.cps.size := Nat.min_eq_right (Pq hx' (by decide))
  have h00 : min ((0 : Int).toNat) x.cps.size = 0 := Nat.zero_min _
  simp only [hl, h00]
  unfold Re.reAnswer
  have hr := Yo O x.cps
  refine wpAny_bind (gY (b := x.cps.toList.any f) hr ?_)
  induction hb : x.cps.toList.any f with
  | false =>
    rw [hb] at h
    simp only [R7, if_false] at h ⊢
    exact wpAny_pure ⟨_, rfl, h⟩
  | true =>
    rw [hb] at h
    simp only [if_true] at h ⊢
    refine wpAny_bind ?_
    unfold Re.reNewMatch
    show PQ _ _ (newTuple _ >>= fun q => newFields "re.Match" [_, _, _, _, _, q]) _ _ s
    refine wpAny_bind (wpAny_newTuple ?_ (by show 2 <= Pr; decide))
    unfold newFields
    refine wpAny_newObj_type (wpAny_pure ⟨_, rfl, ?_⟩)
    exact h _ _ rfl rfl ⟨_, rfl⟩
noncomputable def xD (l : List Nat) : Array Pu := (l.map fun (n : Nat) => Pu.int n 0).toArray
theorem Zp (l : List Nat) : ((xD l).map Re.reRawOf).map (·.toNat) = l.toArray := by
 unfold xD
 apply UE
 simp only [Array.toList_map, Su]
 induction l with
 | nil => rfl
 | cons a l ih => simp only [RO, ih]; rfl
noncomputable def Z2 : List Nat := [14, 14, 4, 1, 1, 9, 0, 4227896069, 939524097, 0, 0, 0, 0, 0, 0, 13, 11, 9, 0, 4227896069, 939524097, 0, 0, 0, 0, 0, 0, 1]
noncomputable def FQ : List Nat := [14, 10, 4, 1, 1, 22, 0, 31, 16, 127, 0, 13, 7, 22, 0, 31, 16, 127, 0, 1]
noncomputable def Zj : List Nat := [14, 14, 4, 1, 1, 9, 4294966783, 0, 0, 2147483648, 0, 0, 0, 0, 0, 13, 11, 9, 4294966783, 0, 0, 2147483648, 0, 0, 0, 0, 0, 1]
theorem Wc {r : Except String (Bool × AQ)} {b v : Bool} {s1 s2 : AQ} (hv : b = v) (h : r = if b = true then .ok (true, s1) else .ok (false, s2)) : ∃ sn', r = .ok (v, sn') := by
 rw [h, hv]
 exact v.rec ⟨_, rfl⟩ ⟨_, rfl⟩
theorem Vm {g : Nat -> Nat} {f : Nat -> Bool} (hf : ∀ c, c < 256 -> (g (c / 32)).testBit (c % 32) = f c) (hb : ∀ c, 256 <= c -> f c = false) (c : Nat) : (decide (c < 256) && (g (c / 32)).testBit (c % 32)) = f c := by
 by_cases hc : c < 256
 ·rw [hf c hc, decide_eq_true hc]; rfl
 ·rw [hb c (A8 hc), decide_eq_false hc]; rfl
theorem XF {l : List Nat} {c : Nat} (h : (l.all fun x => decide (x < 256)) = true) (hc : 256 <= c) : l.contains c = false := by
 induction q : l.contains c with
 | false => rfl
 | true => exact absurd (of_decide_eq_true (PT.mp h c (RR.mp q))) (Sh.mpr hc)
theorem H4 {c : Nat} (hc : 256 <= c) : QF c = false := by simp [QF]; lia
theorem Nd : xN Z2.toArray 15 xz where
 info := rfl
 flag := rfl
 least := rfl
 hdr := rfl
 first := fun c sn => Wc (s1 := sn.add 9) (s2 := (sn.add 9).add 0) (Vm (g := fun n => Z2.toArray.getD (5 + (1 + n)) 0) (by decide +kernel) (fun c hc => XF rfl hc) c) (by kernel_rfl)
 inop := rfl
 second := fun c sn => Wc (s1 := sn.add 9) (s2 := (sn.add 9).add 0) (Vm (g := fun n => Z2.toArray.getD (17 + (1 + n)) 0) (by decide +kernel) (fun c hc => XF rfl hc) c) (by kernel_rfl)
 succ := rfl
 lt1 := by decide
 lt2 := by decide
theorem Nk : xN Zj.toArray 15 QF where
 info := rfl
 flag := rfl
 least := rfl
 hdr := rfl
 first := fun c sn => Wc (s1 := sn.add 9) (s2 := (sn.add 9).add 0) (Vm (g := fun n => Zj.toArray.getD (5 + (1 + n)) 0) (by decide +kernel) (fun c hc => H4 hc) c) (by kernel_rfl)
 inop := rfl
 second := fun c sn => Wc (s1 := sn.add 9) (s2 := (sn.add 9).add 0) (Vm (g := fun n => Zj.toArray.getD (17 + (1 + n)) 0) (by decide +kernel) (fun c hc => H4 hc) c) (by kernel_rfl)
 succ := rfl
 lt1 := by decide
 lt2 := by decide
theorem EY {r : Except String (Bool × AQ)} {c : Nat} {s1 s2 s3 : AQ} (h : r = if (decide (0 <= c) && decide (c <= 31)) = true then .ok (true, s1) else if (c == 127) = true then .ok (true, s2) else .ok (false, s3)) : ∃ sn', r = .ok (ZD c, sn') := by
 rw [h, decide_eq_true (Rj c), Bool.true_and]
 unfold ZD
 induction decide (c <= 31) with
 | true => exact ⟨_, rfl⟩
 | false => induction c == 127 with
   | true => exact ⟨_, rfl⟩
   | false => exact ⟨_, rfl⟩
theorem Ny : xN FQ.toArray 11 ZD where
 info := rfl
 flag := rfl
 least := rfl
 hdr := rfl
 first := fun c sn => EY (s1 := sn.add 22) (s2 := (sn.add 22).add 16) (s3 := ((sn.add 22).add 16).add 0) (by kernel_rfl)
 inop := rfl
 second := fun c sn => EY (s1 := sn.add 22) (s2 := (sn.add 22).add 16) (s3 := ((sn.add 22).add 16).add 0) (by kernel_rfl)
 succ := rfl
 lt1 := by decide
 lt2 := by decide
section
variable {w : Rk} {hT : PP} {A : RE} {ρ : List PE} {μ : q4} {s : Py} {n : Nat}
theorem XJ {p c : PE} {x : Str} {t : Tok} {v0 v1 v3 v4 : Pu} {k0 : Tok} {cs : List Nat} {k : Nat} {f : Nat -> Bool} {body : Nat} {r : Except Exn Bool} {μ' : q4} {Q : Bool -> Py -> Prop} {E : Pu -> Py -> Prop} (hx : x.length <= Pr) (O : xN cs.toArray body f)
 (hp : s.heap.get? p = some { cls := .type "re.Pattern", data := .fields #[v0, v1, .int 0 k0, v3, v4, .ref c, .int 0 k0] }) (hc : s.heap.get? c = some { cls := .type "tuple", data := .seq (xD cs) k })
 (S : SR w hT ρ μ s.heap) (hm : pret (x.cps.toList.any f) μ = some (r, μ')) (P : xT w hT (fun zz zz a b => a = b) ρ s r μ' Q E) :
 PQ (MM w) A (call (.builtin "re.Pattern.search") [.ref p, .str x t]) (fun v s₁ => PQ (MM w) A (bm v) Q E s₁) E s := by
 refine T2 ku ⟨_, hp, rfl⟩ Z8 (XE _ _) (JR (codes := xD cs) (n := k) (f := f) (body := body) (p := p) (c := c) hx (by rw [Zp]; exact O)) ⟨hp, hc, ?_⟩
 induction hb : x.cps.toList.any f with
 | false =>
   rw [hb] at hm
   simp only [R7, if_false]
   exact truthy_none (P.pret (tk := s.toks) hm S rfl)
 | true =>
   rw [hb] at hm
   simp only [if_true]
   intro tup o h1 h2 h3
   cases hm
   have hk : ∀ b ob, s.heap.get? b = some ob -> ((s.heap.push tup).push o).get? b = some ob := fun b ob e => qg _ _ _ _ (qg _ _ _ _ e)
   have hnf : o.isFreed = false := by
    obtain ⟨vs, hd⟩ := h3
    obtain ⟨c, d, dt, sl⟩ := o
    cases hd
    rfl
   exact Jp (s := { s with heap := (s.heap.push tup).push o }) (Rg _ hnf) h1 (P.ok _ _ s.toks ρ _ rfl (Le.of_keeps hk) (S.keeps hk) rfl)
theorem Hj (G : GF w hT) (S : SR w hT ρ μ s.heap) : s.heap.get? 48 = some { cls := .type "re.Pattern", data := .fields #[.str ⟨#[91, 32, 92, 40, 92, 41, 60, 62, 64, 44, 59, 58, 92, 92, 34, 47, 92, 91, 92, 93, 92, 63, 61, 93]⟩ 304, .int 32 335, .int 0 0, .none, .none, .ref 47, .int 0 0] } /\ s.heap.get? 47 = some { cls := .type "tuple", data := .seq (xD Z2) 0 } :=
 ⟨S.top _ _ (G.1 48 _ (by kernel_rfl)), S.top _ _ (G.1 47 _ (by kernel_rfl))⟩
theorem EX (G : GF w hT) (S : SR w hT ρ μ s.heap) : s.heap.get? 53 = some { cls := .type "re.Pattern", data := .fields #[.str ⟨#[91, 92, 120, 48, 48, 45, 92, 120, 49, 70, 92, 120, 55, 70, 93]⟩ 338, .int 32 361, .int 0 0, .none, .none, .ref 52, .int 0 0] } /\ s.heap.get? 52 = some { cls := .type "tuple", data := .seq (xD FQ) 0 } :=
 ⟨S.top _ _ (G.1 53 _ (by kernel_rfl)), S.top _ _ (G.1 52 _ (by kernel_rfl))⟩
theorem H2 (G : GF w hT) (S : SR w hT ρ μ s.heap) : s.heap.get? 58 = some { cls := .type "re.Pattern", data := .fields #[.str ⟨#[91, 92, 120, 48, 48, 45, 92, 120, 48, 56, 92, 120, 48, 65, 45, 92, 120, 49, 70, 92, 120, 55, 70, 93]⟩ 364, .int 32 395, .int 0 0, .none, .none, .ref 57, .int 0 0] } /\ s.heap.get? 57 = some { cls := .type "tuple", data := .seq (xD Zj) 0 } :=
 ⟨S.top _ _ (G.1 58 _ (by kernel_rfl)), S.top _ _ (G.1 57 _ (by kernel_rfl))⟩
theorem GZ {p : PE} {f : Nat -> Bool} (G : GF w hT) (S : SR w hT ρ μ s.heap) (h : Vj p = some f) : ∃ c v0 v1 v3 v4 k0 k cs body, xN (List.toArray cs) body f /\ s.heap.get? p = some { cls := .type "re.Pattern", data := .fields #[v0, v1, .int 0 k0, v3, v4, .ref c, .int 0 k0] } /\ s.heap.get? c = some { cls := .type "tuple", data := .seq (xD cs) k } := by
 unfold Vj at h
 by_cases e : p = 48
 ·rw [if_pos e] at h
  rw [e, <- qk h]
  exact ⟨_, _, _, _, _, _, _, _, _, Nd, (Hj G S).1, (Hj G S).2⟩
 ·rw [if_neg e] at h
  by_cases e : p = 53
  ·rw [if_pos e] at h
   rw [e, <- qk h]
   exact ⟨_, _, _, _, _, _, _, _, _, Ny, (EX G S).1, (EX G S).2⟩
  ·rw [if_neg e] at h
   obtain ⟨e, h⟩ := ifT h
   rw [e, <- qk h]
   exact ⟨_, _, _, _, _, _, _, _, _, Nk, (H2 G S).1, (H2 G S).2⟩
theorem Qr {p : PV} {v : Pu} (G : GF w hT) (S : SR w hT ρ μ s.heap) (rv : Rv hT ρ s.heap v p) (h : Gi p = true) : Qd s v "search" "re.Pattern.search" := by
 obtain ⟨f, h⟩ := Se.mp h
 obtain ⟨a, ha, h⟩ := bnd h
 obtain ⟨c, v0, v1, v3, v4, k0, k, cs, body, _, ho, _⟩ := GZ G S h
 rw [rv.rI ha]
 exact ⟨"re.Pattern", wQ, ku, Xr, ⟨_, ho, rfl⟩, fun b e => by injection e with e; subst e; exact ⟨_, ho, rfl⟩⟩
theorem YW {p q : PV} {u v : Pu} (G : GF w hT) (S : SR w hT ρ μ s.heap) (ru : Rv hT ρ s.heap u p) (rv : Rv hT ρ s.heap v q) :
 ∀ r μ', vm p q μ = some (r, μ') -> ∀ (Q : Bool -> Py -> Prop) (E : Pu -> Py -> Prop), xT w hT (fun zz zz a b => a = b) ρ s r μ' Q E ->
  PQ (MM w) A (call (.builtin "re.Pattern.search") [u, v]) (fun v s₁ => PQ (MM w) A (bm v) Q E s₁) E s := by
 intro r μ' hm Q E P
 obtain ⟨f, h, hm⟩ := bnd hm
 obtain ⟨x, hx, hm⟩ := bnd hm
 obtain ⟨a, ha, h⟩ := bnd h
 obtain ⟨c, v0, v1, v3, v4, k0, k, cs, body, O, ho, hc⟩ := GZ G S h
 obtain ⟨t, rfl, hl⟩ := rv.sI hx
 rw [ru.rI ha]
 exact XJ hl O ho hc S hm P
end
end
noncomputable def IL (h : PP) (a : PE) : PP := h.update a fun o => { o with data := .freed }
theorem Bs (h : PP) (a b : PE) : (IL h a).get? b = if b = a then none else h.get? b := by
 by_cases e : b = a
 ·subst e
  rw [if_pos rfl]
  unfold IL
  cases h
  simp only [PP.update, PP.get?, Array.getElem?_modify, if_true]
  cases (‹Array Obj›)[b]? <;> rfl
 ·rw [if_neg e]
  exact Aj h _ (SO e)
noncomputable def x7 (h : PP) : List PE -> PP
 | [] => h
 | a :: l => IL (x7 h l) a
theorem yL (h : PP) (b : PE) : ∀ l : List PE, (x7 h l).get? b = if b ∈ l then none else h.get? b
 | [] => by simp [x7]
 | a :: l => by
   unfold x7
   rw [Bs, yL h b l]
   by_cases e : b = a
   ·simp [e]
   ·by_cases q : b ∈ l <;> simp [e, q]
theorem wD (h : PP) (l : List PE) : (x7 h l).StaysIn h := fun b o e => by
 rw [yL] at e
 split at e
 ·cases e
 ·exact e
theorem yX {h hT base : PP} : ∀ {l : List Env}, h.FunFrames hT l -> (∀ b ∈ l.filterMap (·.frame), base.get? b = none) -> h.FunFrames base l
 | [], _, _ => trivial
 | env :: l, ⟨hk, ⟨L, o, hf, _, ho, hd⟩, hr⟩, hb =>
   ⟨hk, ⟨L, o, hf, hb L (by simp [hf]), ho, hd⟩, yX hr fun b q => hb b (by
     rw [UF] at q ⊢
     obtain ⟨e, he, hh⟩ := q
     exact ⟨e, .tail _ he, hh⟩)⟩
section
variable {w : Rk} {hT : PP} {A : RE} {ρ ρ₀ : List PE} {μ : q4} {s : Py} {n : Nat}
def Wr (hT : PP) (ρ : List PE) (h₀ h h' : PP) : Prop := ∀ b o, h.get? b = some o -> ((∀ vs, o.data ≠ .fields vs) \/ h₀.get? b ≠ none) -> h'.get? b = some o \/ ((hT.get? b = none /\ ∃ es ep, o.data = .dict es ep) /\ b ∉ ρ /\ ∃ sl, h'.get? b = some { o with slots := sl })
def kO (L : PE) (h₀ h : PP) (e : PE) (x : Exn) : Prop :=
 ∃ oe vs a0, ExB h₀ h e x oe vs a0 /\ (vs[1]? = some .none \/ ∃ T oT ts fl, NtA h₀ h e vs fl T oT ts /\ (fl = .none \/ fl = AS L))
def vd (fl : Pu) (h₀ h : PP) (e : PE) (x : Exn) : Prop :=
 ∃ oe vs a0, ExB h₀ h e x oe vs a0 /\ ∃ T oT ts, NtA h₀ h e vs fl T oT ts
theorem ww.toS {L : PE} {h₀ h : PP} {e : PE} {x : Exn} (X : ww h₀ h e x) : kO L h₀ h e x := by
 obtain ⟨oe, vs, a0, b, h7⟩ := X
 refine ⟨oe, vs, a0, b, ?_⟩
 by_cases hh : x.here = true
 ·rw [if_pos hh] at h7; exact .inl h7
 ·rw [if_neg hh] at h7
  exact .inr (h7.imp fun T h => h.imp fun o h => h.imp fun ts h => ⟨_, h, .inl rfl⟩)
theorem vd.toS {L : PE} {h₀ h : PP} {e : PE} {x : Exn} (X : vd (AS L) h₀ h e x) : kO L h₀ h e x :=
 X.imp fun oe h => h.imp fun vs h => h.imp fun a0 h => ⟨h.1, .inr (h.2.imp fun T h => h.imp fun o h => h.imp fun ts h => ⟨_, h, .inr rfl⟩)⟩
theorem vd.toR {h₀ h : PP} {e : PE} {x : Exn} (X : vd .none h₀ h e x) : ww h₀ h e { x with here := false } :=
 X.imp fun oe h => h.imp fun vs h => h.imp fun a0 h => ⟨⟨h.1.g, h.1.c, h.1.d, h.1.a, h.1.m, h.1.f⟩, (if_neg (show ¬ (false = true) from Te)).mpr h.2⟩
theorem Wr.tup {h₀ h h' : PP} (W : Wr hT ρ h₀ h h') {t : PE} {vs : List Pu} (e2 : h.TupAt t vs) : h'.TupAt t vs := by
 obtain ⟨o, n, e2, hc2, hd2⟩ := e2
 rcases W t o e2 (.inl fun vs q => by rw [hd2] at q; cases q) with q | ⟨_, _, sl, q⟩
 ·exact ⟨o, n, q, hc2, hd2⟩
 ·exact ⟨_, n, q, hc2, hd2⟩
theorem Wr.refl (h₀ h : PP) : Wr hT ρ h₀ h h := fun zz zz e zz => .inl e
theorem Wr.trans {h₀ h h' h'' : PP} (W : Wr hT ρ h₀ h h') (W' : Wr hT ρ h₀ h' h'') : Wr hT ρ h₀ h h'' := fun b o hb hc => by
 rcases W b o hb hc with q | ⟨q1, q2, sl, q3⟩
 ·exact W' b o q hc
 ·rcases W' b _ q3 hc with z | ⟨_, _, sl', z⟩
  ·exact .inr ⟨q1, q2, sl, z⟩
  ·exact .inr ⟨q1, q2, sl', z⟩
structure Frm (hT : PP) (ρ : List PE) (h : PP) (b : PE) (o : Obj) : Prop where
 t : hT.get? b = none
 r : b ∉ ρ
 g : h.get? b = some o
 n : ∀ vs, o.data ≠ .fields vs
 d : ∃ es ep, o.data = .dict es ep
theorem Ia {l : List Env} {h : PP} (K : Stk hT A ρ h l) {b : PE} (hb : b ∈ l.filterMap (·.frame)) : ∃ o, Frm hT ρ h b o := by
 obtain ⟨env', he', hb'⟩ := UF.mp hb
 obtain ⟨z, o, ho, hdd⟩ := K.out env' he' b hb'
 obtain ⟨q, o', ho', hd'⟩ := K.ff.mem hb
 have e := qk (ho.symm.trans ho')
 exact ⟨o, q, z, ho, e ▸ hd', hdd⟩
def DT (h₀ h : PP) (e : PE) (T0 : List PE) : Prop := ∀ T ∈ T0, h₀.get? T = none /\ T ≠ e /\ ∃ o ts, h.get? T = some o /\ o.data = .fields ts
theorem Cm {h₀ h h' base : PP} {fs T0 : List PE} {l : List Env} {e : PE} {x : Exn} {oe : Obj} {vs : Array Pu} {a0 fl : Pu} (X : ExB h₀ h e x oe vs a0) (hF : ∀ b ∈ fs, ∃ o, Frm hT ρ h b o) (hT0 : DT h₀ h e T0) (hget : ∀ b, base.get? b = if b ∈ fs ++ e :: T0 then none else h.get? b) (N : bI base l e oe.cls a0 fl h h') : Wr hT ρ h₀ h h' := fun b o hb hc => by
 by_cases hm : b ∈ fs
 ·obtain ⟨o', F⟩ := hF b hm
  have e := qk (F.g.symm.trans hb)
  exact .inr ⟨⟨F.t, e ▸ F.d⟩, F.r, N.2.2.2 b o hb (e ▸ F.n)⟩
 ·have hne : b ≠ e := fun z => by
   have q := qk ((X.g.symm.trans (z ▸ hb)))
   exact hc.elim (fun y => y vs (q ▸ X.d)) fun y => y (z ▸ X.f)
  have hnT : b ∉ T0 := fun q => by
   obtain ⟨q1, _, oT, ts, q2, q3⟩ := hT0 b q
   have z := qk (q2.symm.trans hb)
   exact hc.elim (fun y => y ts (z ▸ q3)) fun y => y q1
  refine .inl (N.1 b o ((hget b).trans ((if_neg fun q => ?_).trans hb)))
  exact (PU.mp q).elim hm fun q => (Rq.mp q).elim hne hnT
theorem I2 {h₀ h h' base : PP} {fs T0 : List PE} {l : List Env} {e : PE} {x : Exn} {oe : Obj} {vs : Array Pu} {a0 fl : Pu} (X : ExB h₀ h e x oe vs a0) (hF : ∀ b ∈ fs, ∃ o, Frm hT ρ h b o) (hT0 : DT h₀ h e T0) (hget : ∀ b, base.get? b = if b ∈ fs ++ e :: T0 then none else h.get? b)
 (Y : ∀ b, h₀.get? b ≠ none -> h.get? b ≠ none) (W : Wr hT ρ h₀ h h') (N : bI base l e oe.cls a0 fl h h') : vd fl h₀ h' e x := by
 obtain ⟨k1, k2, ⟨oe', vs', T, oT, ts, he, ⟨hc, h0⟩, hd, q1, hnT, hTe, hT', hdT, q3⟩, k4⟩ := N
 refine ⟨oe', vs', a0, ⟨he, hc.trans X.c, hd, h0, fun m hm => ?_, X.f⟩, T, oT, ts, q1, hTe, hT', hdT, q3, ?_⟩
 ·obtain ⟨t, tk, e1, e2⟩ := X.m m hm
  exact ⟨t, tk, e1, W.tup e2⟩
 ·refine Classical.byContradiction fun hz => ?_
  rw [hget] at hnT
  by_cases hm : T ∈ fs ++ e :: T0
  ·rcases PU.mp hm with hm | hm
   ·obtain ⟨o', F⟩ := hF T hm
    obtain ⟨sl, z⟩ := k4 T o' F.g F.n
    rw [hT'] at z; cases z
    exact F.n ts hdT
   ·exact (Rq.mp hm).elim hTe fun hm => hz (hT0 T hm).1
  ·rw [if_neg hm] at hnT
   exact Y T hz hnT
theorem XO {M : U9} {env : Env} {outer : List Env} {L e : PE} {x : Exn} {h₀ : PP} {Q : Unit -> Py -> Prop} {E : Pu -> Py -> Prop} (K : Stk hT A ρ s.heap (env :: outer)) (hL : env.frame = some L)
 (X : kO L h₀ s.heap e x) (Y : ∀ b, h₀.get? b ≠ none -> s.heap.get? b ≠ none)
 (h : ∀ h', Wr hT ρ h₀ s.heap h' -> vd (AS L) h₀ h' e x -> Q () { s with heap := h' }) : PQ M A (noteFrame (.ref e) env) Q E s := by
 refine X.elim fun oe X => X.elim fun vs X => X.elim fun a0 X => ?_
 obtain ⟨X, h7⟩ := X
 have hF : ∀ b ∈ (env :: outer).filterMap (·.frame), ∃ o, Frm hT ρ s.heap b o := fun b hb => Ia K hb
 have hget := fun (T0 : List PE) b => yL s.heap b ((env :: outer).filterMap (·.frame) ++ e :: T0)
 have hen : ∀ T0, (x7 s.heap ((env :: outer).filterMap (·.frame) ++ e :: T0)).get? e = none := fun T0 => (hget T0 e).trans (if_pos (Ra _ (.head _)))
 have hl : ∀ T0, s.heap.FunFrames (x7 s.heap ((env :: outer).filterMap (·.frame) ++ e :: T0)) (env :: outer) := fun T0 => yX K.ff fun b hb => (hget T0 b).trans (if_pos (Ro _ hb))
 have fin : ∀ T0, DT h₀ s.heap e T0 -> ∀ h', bI (x7 s.heap ((env :: outer).filterMap (·.frame) ++ e :: T0)) (env :: outer) e oe.cls a0 (AS L) s.heap h' -> Q () { s with heap := h' } := fun T0 hT0 h' N =>
  have W := Cm X hF hT0 (hget T0) N
  h h' W (I2 X hF hT0 (hget T0) Y W N)
 rcases h7 with hh | ⟨T, oT, ts, fl, t, t7⟩
 ·unfold noteFrame
  rw [hL]
  refine wpAny_bind (Uo X.g X.d hh ?_)
  rw [if_neg (by decide)]
  exact wpAny_entryW K.fr (hl []) hL X.g (wD _ _) (hen []) X.d (Tu.mp hh).1 X.a (fin [] fun T q => nomatch q)
 ·have hT0 : DT h₀ s.heap e [T] := fun T' q => by rw [Pw.mp q]; exact ⟨t.f, t.n, oT, ts, t.g, t.d⟩
  have hbT : (x7 s.heap ((env :: outer).filterMap (·.frame) ++ e :: [T])).get? T = none := (hget [T] T).trans (if_pos (Ra _ (.tail _ (.head _))))
  rcases t7 with e1 | e1
  ·exact wpAny_noteFrame_onW K.fr (hl [T]) hL ⟨oe, vs, T, oT, ts, X.g, ⟨rfl, X.a⟩, X.d, t.r, hbT, t.n, t.g, t.d, e1 ▸ t.q⟩ (wD _ _) (hen [T]) (fin [T] hT0)
  ·have tq : ts[3]? = some (AS L) := e1 ▸ t.q
   refine wpAny_noteFrame_againW hL ⟨oe, vs, T, oT, ts, X.g, ⟨X.c, X.a⟩, X.d, t.r, hbT, t.n, t.g, t.d, tq⟩ ?_
   exact h s.heap (Wr.refl _ _) ⟨oe, vs, a0, X, T, oT, ts, t.r, t.n, t.g, t.d, tq, t.f⟩
theorem yP {M : U9} {e : PE} {x : Exn} {fl : Pu} {f : Option PE} {h₀ : PP} {Q : Unit -> Py -> Prop} {E : Pu -> Py -> Prop} (X : vd fl h₀ s.heap e x)
 (h : ∀ h', Wr hT ρ h₀ s.heap h' -> vd (f.elim .none fun f => AS f) h₀ h' e x -> Q () { s with heap := h' }) : PQ M A (setFlight (.ref e) f) Q E s := by
 refine X.elim fun oe X => X.elim fun vs X => X.elim fun a0 X => X.2.elim fun T t => t.elim fun oT t => t.elim fun ts t => ?_
 have X := X.1
 unfold setFlight
 refine wpAny_bind (Uo X.g X.d t.r ?_)
 rw [if_pos (show (ai T != U1) = true from by simp)]
 have hsz : 3 < ts.size := (Tu.mp t.q).1
 refine wpAny_setField t.g t.d hsz ?_
 have other : ∀ b, b ≠ T -> (s.heap.update T (Obj.mapFields (·.setIfInBounds 3 (f.elim U1 fun f => AS f)))).get? b = s.heap.get? b := fun b hb => Aj _ _ (SO hb)
 have W : Wr hT ρ h₀ s.heap (s.heap.update T (Obj.mapFields (·.setIfInBounds 3 (f.elim U1 fun f => AS f)))) := fun b o hb hc => by
  refine .inl ((other b fun z => ?_).trans hb)
  have q := qk (t.g.symm.trans (z ▸ hb))
  exact hc.elim (fun y => y ts (q ▸ t.d)) fun y => y (z ▸ t.f)
 refine h _ W ⟨oe, vs, a0, ⟨(other e (SO t.n)).trans X.g, X.c, X.d, X.a, fun m hm => ?_, X.f⟩, T, _, _, t.r, t.n, SP _ t.g (Obj.isFreed_of_fields (aQ t.d _)), aQ t.d _, by simp [hsz], t.f⟩
 obtain ⟨t, tk, e1, e2⟩ := X.m m hm
 exact ⟨t, tk, e1, W.tup e2⟩
theorem Stk.written {l : List Env} {h₀ h h' : PP} (K : Stk hT A ρ h l) (W : Wr hT ρ h₀ h h') : Stk hT A ρ h' l := by
 refine ⟨K.fr, ?_, fun env he L hf => ?_⟩
 ·refine K.ff.of_keeps fun b o hb hnf => ?_
  rcases W b o hb (.inl hnf) with q | ⟨_, _, sl, q⟩
  ·exact ⟨o, q, rfl⟩
  ·exact ⟨_, q, rfl⟩
 ·obtain ⟨h1, o, ho, hdd⟩ := K.out env he L hf
  have hb : L ∈ l.filterMap (·.frame) := UF.mpr ⟨env, he, hf⟩
  obtain ⟨_, o', ho', hd⟩ := K.ff.mem hb
  rw [ho] at ho'; cases ho'
  rcases W L o ho (.inl hd) with q | ⟨_, _, sl, q⟩
  ·exact ⟨h1, _, q, hdd⟩
  ·exact ⟨h1, _, q, hdd⟩
theorem Ez {M : U9} {env : Env} {outer : List Env} {L e : PE} {x : Exn} {h₀ : PP} {Q : Unit -> Py -> Prop} {E : Pu -> Py -> Prop} (K : Stk hT A ρ s.heap (env :: outer)) (hL : env.frame = some L)
 (X : kO L h₀ s.heap e x) (Y : ∀ b, h₀.get? b ≠ none -> s.heap.get? b ≠ none)
 (h : ∀ h', Wr hT ρ h₀ s.heap h' -> ww h₀ h' e { x with here := false } -> Q () { s with heap := h' }) : PQ M A (leaving env (.ref e)) Q E s := by
 unfold leaving
 refine wpAny_bind (XO K hL X Y fun h' W X' => ?_)
 exact yP (s := { s with heap := h' }) (f := none) X' fun h'' W' X'' => h h'' (W.trans W') X''.toR
theorem Le.written {own : List PE} {h₀ h h' : PP} (Y : Le own ρ₀ h₀ ρ h) (ho : ∀ b ∈ own, h₀.get? b = none) (W : Wr hT ρ h₀ h h') : Le [] ρ₀ h₀ ρ h' := by
 have nown : ∀ b o, h₀.get? b = some o -> b ∉ own := fun b o e q => by rw [ho b q] at e; cases e
 refine ⟨Y.ext, fun b o hb hn zz => ?_, fun b o hb => ?_, fun b o hb hn zz hd => ?_⟩
 ·obtain ⟨sl, hs⟩ := Y.kp b o hb hn (nown b o hb)
  rcases W b _ hs (.inr (by rw [hb]; simp)) with z | ⟨_, z, sl', z'⟩
  ·exact ⟨sl, z⟩
  ·exact ⟨sl', z'⟩
 ·obtain ⟨o', hs⟩ := Y.st b o hb
  rcases W b _ hs (.inr (by rw [hb]; simp)) with z | ⟨_, _, sl', z'⟩
  ·exact ⟨_, z⟩
  ·exact ⟨_, z'⟩
 ·rcases W b o (Y.ex b o hb hn (nown b o hb) hd) (.inr (by rw [hb]; simp)) with z | ⟨⟨_, es, ep, q⟩, _⟩
  ·exact z
  ·exact absurd q (hd es ep)
theorem SR.written {h₀ h h' : PP} (T : ∀ b o, hT.get? b = some o -> h₀.get? b = some o) (S : SR w hT ρ μ h) (W : Wr hT ρ h₀ h h') : SR w hT ρ μ h' := by
 have hx : ∃ more, ρ = ρ ++ more := ⟨[], by simp⟩
 have kv : Kv h h' := fun b o hb hc => by
  obtain ⟨hc1, vs, n, hd⟩ := hc
  rcases W b o hb (.inl fun ws q => by rw [hd] at q; exact nomatch q) with z | ⟨_, _, z⟩
  ·exact ⟨o.slots, z⟩
  ·exact z
 have cell : ∀ a ∈ ρ, ∀ o, h.get? a = some o -> h'.get? a = some o := fun a ha o ho => by
  obtain ⟨o', ho', _, h2, h3⟩ := S.data ha
  rw [ho] at ho'; cases ho'
  rcases W a o ho (.inl h2) with z | ⟨_, z, _⟩
  ·exact z
  ·exact absurd ha z
 refine ⟨fun b o e => ?_, S.nodup, S.len, S.notop, S.low, fun m b d h1 h2 => ?_⟩
 ·rcases W b o (S.top b o e) (.inr (by rw [T b o e]; simp)) with z | ⟨⟨z, _⟩, _⟩
  ·exact z
  ·rw [e] at z; cases z
 ·have hb : b ∈ ρ := Rr h1
  have x := S.cells m b d h1 h2
  induction d with
  | list l =>
    obtain ⟨hl, vs, ⟨k, hp⟩, hv⟩ := x
    exact ⟨hl, vs, ⟨k, cell b hb _ hp⟩, hv.mono hx kv⟩
  | dict l =>
    obtain ⟨kvs, ⟨o, es, ep, ho, r⟩, hv⟩ := x
    exact ⟨kvs, ⟨o, es, ep, cell b hb _ ho, r⟩, hv.mono hx kv⟩
  | inst d =>
    obtain ⟨y, hy, ho⟩ := x
    exact ⟨y, hy, cell b hb _ ho⟩
  | kw l =>
    obtain ⟨kvs, ⟨o, es, ho, r⟩, hv⟩ := x
    exact ⟨kvs, ⟨o, es, cell b hb _ ho, r⟩, hv.mono hx kv⟩
end
inductive RF (hT : PP) (ρ : List PE) (h : PP) : A9 -> j6 -> Prop where
 | next : RF hT ρ h .next .next
 | cont : RF hT ρ h .cont .cont
 | brk : RF hT ρ h .brk .brk
 | ret {v : Pu} {p : PV} : Rv hT ρ h v p -> RF hT ρ h (.ret v) (.ret p)
structure qL (w : Rk) (hT : PP) (A : RE) (outer : List Env) (env : Env) (σ : LE) (ρ : List PE) (μ : q4) (h : PP) (n : Nat) : Prop extends Act w hT A (env :: outer) env σ ρ μ h n where
 fr : env.frame = some env.locals
 ap : ∀ e ∈ outer, ∀ L, e.frame = some L -> L ∉ qy env
 nt : ∀ b ∈ qy env, hT.get? b = none
structure jT (w : Rk) (hT : PP) (env : Env) (ρ : List PE) (s : Py) (r : Except Exn j6) (σ' : LE) (μ' : q4) (Q : A9 -> Py -> Prop) (E : Pu -> Py -> Prop) : Prop where
 ok : ∀ f h' tk ρ' b, r = .ok b -> Le (qy env) ρ s.heap ρ' h' -> SR w hT ρ' μ' h' -> qN hT ρ' h' env σ' -> RF hT ρ' h' f b -> 1 <= tk -> Q f { s with heap := h', toks := tk }
 err : ∀ e h' tk ρ' x, r = .error x -> Le (qy env) ρ s.heap ρ' h' -> SR w hT ρ' μ' h' -> qN hT ρ' h' env σ' -> kO env.locals s.heap h' e x -> 1 <= tk -> E (.ref e) { s with heap := h', toks := tk }
def j5 (w : Rk) (hT : PP) (A : RE) (env : Env) (ρ : List PE) (s : Py) (t : Sem A9) (m : SR') : Prop :=
 1 <= s.toks -> ∀ r σ' μ', m = some (r, σ', μ') -> ∀ (Q : A9 -> Py -> Prop) (E : Pu -> Py -> Prop), jT w hT env ρ s r σ' μ' Q E -> PQ (MM w) A t Q E s
section
variable {w : Rk} {hT : PP} {A : RE} {ρ ρ' : List PE} {μ μ' : q4} {s : Py} {n : Nat} {env : Env} {outer : List Env} {σ σ' : LE} {h h' : PP}
theorem kO.le {own : List PE} {L : PE} {h₀ h h' : PP} {e : PE} {x : Exn} (y : Le own ρ h₀ ρ' h) (q : kO L h h' e x) : kO L h₀ h' e x :=
 q.imp fun oe q => q.imp fun vs q => q.imp fun a0 q => ⟨q.1.le y, q.2.imp_right fun z => z.imp fun T z => z.imp fun oT z => z.imp fun ts z => z.imp fun fl z => ⟨z.1.le y, z.2⟩⟩
theorem jT.le {r : Except Exn j6} {Q : A9 -> Py -> Prop} {E : Pu -> Py -> Prop} {tk : Nat} (P : jT w hT env ρ s r σ' μ' Q E) (x : Le (qy env) ρ s.heap ρ' h') :
 jT w hT env ρ' { s with heap := h', toks := tk } r σ' μ' Q E :=
 ⟨fun a h₂ tk₂ ρ₂ b e y z q => P.ok a h₂ tk₂ ρ₂ b e (x.trans y) z q, fun e h₂ tk₂ ρ₂ b e' y z q u => P.err e h₂ tk₂ ρ₂ b e' (x.trans y) z q (u.le x)⟩
theorem Stk.leOwn {own : List PE} (K : Stk hT A ρ h (env :: outer)) (x : Le own ρ h ρ' h') (E : qN hT ρ' h' env σ') (hf : env.frame = some env.locals) (hap : ∀ e ∈ outer, ∀ L, e.frame = some L -> L ∉ own) : Stk hT A ρ' h' (env :: outer) := by
 obtain ⟨hk, ⟨L, o, hL, hn, ho, hd⟩, hr⟩ := K.ff
 obtain ⟨m, ⟨o', es, ep, ho', hd', _⟩, _⟩ := E.ns
 rw [hf] at hL
 cases hL
 refine ⟨K.fr, ⟨hk, ⟨env.locals, o', hf, hn, ho', fun vs q => by rw [hd'] at q; cases q⟩, yb x.kp hr fun e he L hL => ⟨(K.out e (.tail _ he) L hL).1, hap e he L hL⟩⟩, fun e he L hL => ?_⟩
 rcases Rq.mp he with rfl | he
 ·rw [hf] at hL; cases hL
  exact ⟨E.loc, o', ho', es, ep, hd'⟩
 ·obtain ⟨h1, ob, hob, hdd⟩ := K.out e (.tail _ he) L hL
  obtain ⟨sl, hs⟩ := x.kp L ob hob h1 (hap e he L hL)
  exact ⟨x.out hob h1, _, hs, hdd⟩
theorem qL.leOwn (X : qL w hT A outer env σ ρ μ h n) (x : Le (qy env) ρ h ρ' h') (S : SR w hT ρ' μ' h') (E : qN hT ρ' h' env σ') : qL w hT A outer env σ' ρ' μ' h' n :=
 ⟨⟨S, E, X.sk.leOwn x E X.fr X.ap, X.rm⟩, X.fr, X.ap, X.nt⟩
theorem qL.le (X : qL w hT A outer env σ ρ μ h n) (x : Le [] ρ h ρ' h') (S : SR w hT ρ' μ' h') : qL w hT A outer env σ ρ' μ' h' n := X.leOwn x.any S (X.er.le X.sr x)
set_option tactic.hygienic true in
theorem jb : ∀ (names : List (Str × Sm)) (k : Nat) (acc : List (Str × PE)), (cellsFrom k names acc).map (·.1) = ((names.filter (·.2 == .cell)).map (·.1)).reverse ++ acc.map (·.1)
 | [], _, _ => by simp [cellsFrom]
 | (x, kd) :: r, k, acc => by
   unfold cellsFrom
   split
   ·rename_i hk
    rw [jb r]
    simp only [RO, filter_cons, hk, if_true, bb, PH, Tq]
   ·rename_i hk
    rw [jb r]
    simp only [filter_cons, hk, if_false, R7]
theorem jS {α : Type} : ∀ {l : List (Str × α)} {x : Str} {c : α}, (l.map (·.1)).Nodup -> (x, c) ∈ l -> l.lookup x = some c
 | (k, v) :: r, x, c, hn, hm => by
   simp only [RO, Us] at hn
   rw [Ry]
   rcases Rq.mp hm with e | e
   ·cases e; simp
   ·have : (x == k) = false := by
     rw [beq_eq_false_iff_ne]; rintro rfl
     exact hn.1 (Ri.mpr ⟨_, e, rfl⟩)
    rw [this]
    exact jS hn.2 e
theorem jo {α : Type} : ∀ {l : List (Str × α)} {x : Str}, x ∈ l.map (·.1) -> ∃ c, l.lookup x = some c
 | (k, v) :: r, x, hm => by
   rw [Ry]
   induction hb : (x == k) with
   | true => exact ⟨v, rfl⟩
   | false =>
     rw [RO] at hm
     rcases Rq.mp hm with e | e
     ·rw [e] at hb; simp at hb
     ·exact jo e
theorem QA {kf : Str -> Option Sm} {x : Str} : ∀ {binds : List (Str × Pu)} {m : Str -> Option Pu}, x ∉ binds.map (·.1) -> bindL kf binds m x = m x
 | [], _, _ => rfl
 | (y, v) :: r, m, hn => by
   simp only [RO, mem_cons, not_or] at hn
   unfold bindL
   rw [QA hn.2]
   split
   ·simp [hn.1]
   ·rfl
theorem QV {kf : Str -> Option Sm} {x : Str} : ∀ {binds : List (Str × Pu)} {m : Str -> Option Pu}, x ∉ binds.map (·.1) -> bindC kf binds m x = m x
 | [], _, _ => rfl
 | (y, v) :: r, m, hn => by
   simp only [RO, mem_cons, not_or] at hn
   unfold bindC
   rw [QV hn.2]
   split
   ·rfl
   ·simp [hn.1]
theorem RvD.keys : ∀ {kvs : List (Str × Pu)} {l : Loc}, RvD hT ρ h kvs l -> kvs.map (·.1) = l.map (·.1)
 | _, _, .nil => rfl
 | _, _, .cons _ r => by simp [RvD.keys r]
theorem Xi {kf : Str -> Option Sm} {x : Str} {p : PV} (hk : kf x = some .local) : ∀ {binds : List (Str × Pu)} {l : Loc} {m : Str -> Option Pu}, RvD hT ρ h binds l -> (l.map (·.1)).Nodup -> l.lookup x = some p -> ∃ v, bindL kf binds m x = some v /\ Rv hT ρ h v p
 | _, _, _, .nil, _, e => by cases e
 | _, _, m, .cons (k := k) (v := v) a r, hn, e => by
   simp only [RO, Us] at hn
   rw [Ry] at e
   unfold bindL
   induction hb : (x == k) with
   | true =>
     rw [hb] at e
     cases e
     have := eq_of_beq hb
     subst this
     refine ⟨v, ?_, a⟩
     rw [QA (by rw [r.keys]; exact hn.1), if_pos hk]
     simp
   | false =>
     rw [hb] at e
     exact Xi hk r hn.2 e
theorem ZH {kf : Str -> Option Sm} {x : Str} {p : PV} (hk : kf x = some .cell) : ∀ {binds : List (Str × Pu)} {l : Loc} {m : Str -> Option Pu}, RvD hT ρ h binds l -> (l.map (·.1)).Nodup -> l.lookup x = some p -> ∃ v, bindC kf binds m x = some v /\ Rv hT ρ h v p
 | _, _, _, .nil, _, e => by cases e
 | _, _, m, .cons (k := k) (v := v) a r, hn, e => by
   simp only [RO, Us] at hn
   rw [Ry] at e
   unfold bindC
   induction hb : (x == k) with
   | true =>
     rw [hb] at e
     cases e
     have := eq_of_beq hb
     subst this
     refine ⟨v, ?_, a⟩
     rw [QV (by rw [r.keys]; exact hn.1), if_neg (by rw [hk]; decide)]
     simp
   | false =>
     rw [hb] at e
     exact ZH hk r hn.2 e
end
noncomputable def yU (w : Rk) (a : PE) : Option UG := match (KK w).lookup a with
 | some ⟨_, _, .func fd, _⟩ => some fd
 | _ => none
noncomputable def KO (K : Frag) (fd : UG) : Bool := fd.globals == mainGlobals && fd.closure.isEmpty && fd.builtins == builtinsNs && !fd.scope.isGenerator && !fd.scope.isCoroutine && fd.scope.kind == .function && codeIn K fd.code fd.qualname &&
 decide ((fd.scope.names.map (·.1)).Nodup)
noncomputable def j7 (w : Rk) (a : PE) : UG := (yU w a).getD default
theorem Wx {w : Rk} {a : PE} (h : (yU w a).isSome = true) : yU w a = some (j7 w a) := by
 obtain ⟨fd, e⟩ := Se.mp h
 unfold j7
 rw [e]; rfl
def v7 (w : Rk) (hT : PP) (A : RE) (ρ : List PE) (s : Py) (a : PE) (vs : List Pu) (kws : List (Str × Pu)) (m : PR PV) : Prop :=
 1 <= s.toks -> ∀ r μ', m = some (r, μ') -> ∀ (Q : Pu -> Py -> Prop) (E : Pu -> Py -> Prop), xH w hT (Rv hT) ρ s r μ' Q E ->
  TC (MM w) A (.call (.ref a) ⟨vs, kws⟩) (fun r s' => match r with | .ok (.ret v) => Q v s' | .ok _ => False | .error e => E e s') s
theorem v7.sim {w : Rk} {hT : PP} {A : RE} {ρ : List PE} {s : Py} {a : PE} {vs : List Pu} {kws : List (Str × Pu)} {m : PR PV} (h : v7 w hT A ρ s a vs kws m) : Sim w hT A (Rv hT) ρ s (call (.ref a) vs kws) m :=
 fun ht r μ' hm Q E P => Ak (h ht r μ' hm Q E P)
section
variable {w : Rk} {hT : PP} {A : RE} {ρ ρ' : List PE} {μ μ₁ μ' : q4} {s : Py} {n : Nat} {env : Env} {outer : List Env} {σ σ' : LE} {h h' : PP}
set_option tactic.hygienic true in
theorem KF {a : PE} {fd : UG} {body : List Sf} {args : Args} {m : SR'} (G : GF w hT) (hfd : yU w a = some fd) (hok : KO (KK w) fd = true) (hbody : fd.body = .stmts body)
 (S : SR w hT ρ μ s.heap) (K : Stk hT A ρ s.heap outer) (R : jX A (n + 1)) (hsc : σ.sc = fd.scope.names) (hnd : (σ.vs.map (·.1)).Nodup) (hkd : ∀ x ∈ σ.vs.map (·.1), fd.scope.names.lookup x = some .local \/ fd.scope.names.lookup x = some .cell)
 (hbind : ∀ E', PQ (MM w) A.in1 (RW fd args) (fun binds s₁ => ∃ h₁ tk₁ ρ₁, s₁ = { s with heap := h₁, toks := tk₁ } /\ s.toks <= tk₁ /\ Le [] ρ s.heap ρ₁ h₁ /\ SR w hT ρ₁ μ₁ h₁ /\ RvD hT ρ₁ h₁ binds σ.vs) E' s)
 (hex : ∀ env ρ₁ s₁, qL w hT (A.deeper env) outer env σ ρ₁ μ₁ s₁.heap n -> j5 w hT (A.deeper env) env ρ₁ s₁ (execs body env) m) :
 v7 w hT A ρ s a args.pos args.kw (zX m) := by
 intro ht r μ' hm Q E P
 unfold KO at hok
 simp only [Rl, beq_iff_eq, decide_eq_true_eq, S8] at hok
 obtain ⟨⟨⟨⟨⟨⟨⟨g1, g2⟩, g3⟩, g4⟩, g5⟩, g6⟩, g7⟩, g8⟩ := hok
 have hlook : ∃ c d sl, (KK w).lookup a = some ⟨c, d, .func fd, sl⟩ := by
  unfold yU at hfd
  split at hfd
  ·rename_i c d fd' sl e
   rw [<- qk hfd]
   exact ⟨c, d, sl, e⟩
  ·exact no hfd
 obtain ⟨oc, od, osl, hlook⟩ := hlook
 obtain ⟨X, mean, mg, mb, T⟩ := G
 have hin : ∀ {hh : PP}, (∀ b o, hT.get? b = some o -> hh.get? b = some o) -> (KK w).In hh := fun k => X.keeps k
 have hclo : fd.closure = [] := Rf.mp g2
 refine Az (fd := fd) (body := body) (by have := R.2.1; lia) (hin S.top a _ hlook) rfl g5 g4 hbody (codeRec_of (hin S.top) g7) ?_
 refine RG (hbind _) (fun binds s₁ hb => ?_) fun zz zz x => x
 obtain ⟨h₁, tk₁, ρ₁, rfl, htk, x1, S1, hrd⟩ := hb
 have hkeys := hrd.keys
 rw [hclo]
 have hcn : ∀ k, ((cellsFrom k fd.scope.names []).map (·.1)).Nodup := fun k => by
  rw [jb]
  simp only [Al, PS]
  exact AA.mpr (((bp _ (au)).nodup g8).imp fun h => SO h)
 have hcl : ∀ k x, fd.scope.names.lookup x = some .cell -> ∃ c, (cellsFrom k fd.scope.names []).lookup x = some c := fun k x hx => by
  refine jo ?_
  rw [jb]
  simp only [Al, PS, TD]
  exact Ri.mpr ⟨_, RM.mpr ⟨mem_of_lookup hx, by simp⟩, rfl⟩
 refine jk (show 1 <= tk₁ by lia) (wpAny_newFunctionEnv_cells g6 (fun x hx => ?_) fun env he s₂ I htk2 => ?_)
 ·have hx' : x.1 ∈ σ.vs.map (·.1) := by rw [<- hkeys]; exact RS hx
  rcases hkd _ hx' with q | q
  ·exact .inl q
  ·obtain ⟨c, hc⟩ := hcl ((({ s with heap := h₁, toks := tk₁ } : Py)).heap.objs.size + 1) _ q
   exact .inr ⟨q, by rw [hc]; rfl⟩
 ·obtain ⟨⟨⟨h₂, tk₂, e2⟩, hns, hkeep, hfr⟩, hcell, hapart, habove⟩ := I
  subst e2
  have hks : ∀ b o, h₁.get? b = some o -> h₂.get? b = some o := hkeep
  have hsize : env.locals = h₁.objs.size := by rw [he]; rfl
  have hown : ∀ b ∈ qy env, h₁.objs.size <= b := by
   intro b hb
   rcases Rq.mp hb with rfl | hb
   ·exact hfr
   ·obtain ⟨q, hq, rfl⟩ := Ri.mp hb
    exact Pq hfr (Tf (habove q.1 q.2 hq))
  have hf1 : ∀ b ∈ qy env, h₁.get? b = none := fun b hb => by
   induction q : h₁.get? b with
   | none => rfl
   | some o => exact absurd (RJ q) (Sh.mpr (hown b hb))
  have hf0 : ∀ b ∈ qy env, s.heap.get? b = none := fun b hb => vB x1 (hf1 b hb)
  have hρ1 : ∀ b ∈ qy env, b ∉ ρ₁ := fun b hb q => by
   obtain ⟨o, ho, _⟩ := S1.data q
   rw [hf1 b hb] at ho; cases ho
  have x2 : Le [] ρ₁ h₁ ρ₁ h₂ := Le.of_keeps hks
  have S2 : SR w hT ρ₁ μ₁ h₂ := S1.keeps hks
  have hkf : ∀ x, env.kindOf x = fd.scope.names.lookup x := fun x => by rw [he]; rfl
  have hcs : env.cells = cellsFrom (h₁.objs.size + 1) fd.scope.names [] := by rw [he]; rfl
  have hnt : ∀ b ∈ qy env, hT.get? b = none := fun b hb => by
   induction q : hT.get? b with
   | none => rfl
   | some o => have := S1.top b o q; rw [hf1 b hb] at this; cases this
  have hfrm : env.frame = some env.locals := by rw [he]; rfl
  have ER : qN hT ρ₁ h₂ env σ := by
   have kv : Kv h₁ h₂ := Kv.of_keeps hks
   have hx0 : ∃ more, ρ₁ = ρ₁ ++ more := ⟨[], by simp⟩
   refine ⟨by rw [he]; exact g6, by rw [he, hsc]; rfl, by rw [he]; exact g1, by rw [he]; exact g3, hρ1 _ (.head _), ⟨_, hns, fun x p hx hk => ?_⟩, fun x p hx hk => ?_, fun q hq => ?_, fun q hq q' hq' e => ?_, fun x hx => ?_⟩
   ·obtain ⟨v, hv, hr⟩ := Xi (m := fun zz => none) (kf := env.kindOf) (by rw [hkf, <- hsc]; exact hk) hrd hnd hx
    exact ⟨v, hv, hr.mono hx0 kv⟩
   ·obtain ⟨v, hv, hr⟩ := ZH (m := fun zz => none) (kf := env.kindOf) (by rw [hkf, <- hsc]; exact hk) hrd hnd hx
    obtain ⟨c, hc⟩ := hcl (h₁.objs.size + 1) x (by rw [<- hsc]; exact hk)
    rw [<- hcs] at hc
    have := hcell x c hc
    rw [hv] at this
    exact ⟨c, v, hc, this, hr.mono hx0 kv⟩
   ·have hm : q.2 ∈ qy env := .tail _ (RS hq)
    refine ⟨hρ1 _ hm, RZ (habove q.1 q.2 hq), _, hcell q.1 q.2 (jS (by rw [hcs]; exact hcn _) hq)⟩
   ·exact name_of_addr hapart (show (q.1, q.2) ∈ env.cells from hq) (by rw [e]; exact hq')
   ·obtain ⟨c, hc⟩ := hcl (h₁.objs.size + 1) x (by rw [<- hsc]; exact hx)
    exact ⟨c, by rw [hcs]; exact hc⟩
  have K2 : Stk hT A ρ₁ h₂ outer := (K.le x1).le x2
  have K3 : Stk hT (A.deeper env) ρ₁ h₂ (env :: outer) := by
   obtain ⟨o, es, ep, ho, hd, _⟩ := hns
   refine ⟨by show A.frames.map (env :: ·) = _; rw [K.fr]; rfl, ⟨by rw [ER.kind]; decide, ⟨env.locals, o, hfrm, hnt _ (.head _), ho, fun vs q => by rw [hd] at q; exact nomatch q⟩, K2.ff⟩, fun e' he' L hL => ?_⟩
   rcases Rq.mp he' with rfl | he'
   ·rw [hfrm] at hL; cases hL
    exact ⟨hρ1 _ (.head _), o, ho, es, ep, hd⟩
   ·exact K2.out e' he' L hL
  have act : qL w hT (A.deeper env) outer env σ ρ₁ μ₁ h₂ n := by
   refine ⟨⟨S2, ER, K3, ⟨R.1, ?_, ?_⟩⟩, hfrm, fun e' he' L hL hm => ?_, hnt⟩
   ·have := R.2.1; show A.depth + 1 + n + 20 < _; lia
   ·have := R.2.2; show A.units + 3 + 20 * n + 200 < _; lia
   ·obtain ⟨_, o, ho, _⟩ := K.out e' he' L hL
    rw [hf0 L hm] at ho; cases ho
  refine ⟨(T.nolimit.keeps S1.top).keeps hks, codeAny_func ?_⟩
  have back : ∀ {ρ' : List PE} {h' : PP}, Le (qy env) ρ₁ h₂ ρ' h' -> Le (qy env) ρ s.heap ρ' h' := fun y => ((x1.trans x2).any).trans y
  have strip : ∀ {ρ' : List PE} {h' : PP}, Le (qy env) ρ s.heap ρ' h' -> Le [] ρ s.heap ρ' h' := fun y => y.weaken fun b o e q => by rw [hf0 b q] at e; cases e
  obtain ⟨⟨r1, σ', μ₂⟩, rfl, hm1⟩ := bnd hm
  clear hm
  induction r1 with
  | ok f =>
    refine hex env ρ₁ _ act htk2 _ _ _ rfl _ _ ⟨fun f h' tk ρ' b e y S' E' rf ht' => ?_, fun e h' tk ρ' x e' => (nomatch e')⟩
    cases e
    induction rf with
    | next => exact (P.of hm1).ok _ h' tk ρ' .none rfl (strip (back y)) S' .none ht'
    | ret rv => exact (P.of hm1).ok _ h' tk ρ' _ rfl (strip (back y)) S' rv ht'
    | _ => exact no hm1
  | error x =>
    have P := P.of hm1
    refine hex env ρ₁ _ act htk2 _ _ _ rfl _ _ ⟨fun f h' tk ρ' b e => (nomatch e), fun e h' tk ρ' x' e' y S' E' ex ht' => ?_⟩
    cases e'
    have K' : Stk hT (A.deeper env) ρ' h' (env :: outer) := act.sk.leOwn y E' hfrm act.ap
    have y0 := back y
    refine Ez (h₀ := s.heap) (s := { s with heap := h', toks := tk }) K' hfrm (ex.le (x1.trans x2)) (fun b hb => ?_) fun h'' W X' => ?_
    ·induction q : s.heap.get? b with
     | none => exact absurd q hb
     | some o => obtain ⟨o', ho'⟩ := y0.st b o q; show h'.get? b ≠ none; rw [ho']; simp
    ·exact P.err e h'' tk ρ' _ rfl (Le.written y0 hf0 W) (SR.written (fun b o q => S.top b o q) S' W) X' ht'
end
noncomputable def JO : List (PE × Nat) := [(38, 1), (43, 1), (196, 1), (201, 2), (208, 1), (215, 2), (220, 3), (225, 3), (230, 1), (235, 2), (240, 1), (245, 1), (250, 1), (102, 3), (107, 2), (121, 2), (126, 2), (163, 1), (177, 3)]
noncomputable def vC : List PE := JO.map (·.1)
noncomputable def fK : List PE := vC ++ [66, 81, 134, 88, 184]
noncomputable def fY (fd : UG) : Option Fn := match fd.body with
 | .stmts b => some { names := fd.params.args.map (·.arg), kwonly := fd.params.kwonlyargs.map (·.arg), kwarg := fd.params.kwarg.map (·.arg), sc := fd.scope.names, body := b }
 | _ => none
noncomputable def ftK (w : Rk) : FT := fun a => if fK.contains a then (yU w a).bind fY else none
noncomputable def Hn (fd : UG) (l : List Str) : Bool := decide l.Nodup && l.all fun x => xy (fd.scope.names.lookup x)
noncomputable def YG (w : Rk) (a : PE) (names kwonly : List Str) (kwarg : Option Str) : Bool := (yU w a).isSome && KO (KK w) (j7 w a) && (j7 w a).params.args.map (·.arg) == names && (j7 w a).params.kwonlyargs.map (·.arg) == kwonly && (j7 w a).params.kwarg.map (·.arg) == kwarg && Hn (j7 w a) (names ++ kwonly ++ kwarg.toList)
theorem xX {α : Type} {o : Option α} {p : α -> Bool} (h : o.any p = true) : ∃ x, o = some x /\ p x = true := by
 induction o with
 | none => cases h
 | some x => exact ⟨x, rfl, h⟩
theorem GE {fd : UG} {l : List Str} (h : Hn fd l = true) : l.Nodup /\ ∀ x ∈ l, fd.scope.names.lookup x = some .local \/ fd.scope.names.lookup x = some .cell :=
 ⟨of_decide_eq_true (an h).1, fun x hx => xt (PT.mp (an h).2 x hx)⟩
section
variable {w : Rk} {hT : PP} {A : RE} {ρ ρ' : List PE} {μ μ₁ μ' : q4} {s : Py} {n : Nat} {env : Env} {outer : List Env} {σ σ' : LE} {h h' : PP}
theorem RvL.zip {vs : List Pu} : ∀ {names : List Str} {ps : List PV}, RvL hT ρ h vs ps -> RvD hT ρ h (names.zip vs) (names.zip ps) := by
 induction vs with
 | nil => intro names ps r; cases r; rw [aT, aT]; exact .nil
 | cons v vs ih =>
   intro names ps r
   cases r with | cons a r =>
   induction names using PD with
   | nil => exact .nil
   | cons x names => exact .cons a (ih r)
theorem fe {d : PE} {k : Str} {t : Tok} {v : Pu} {c : Nat} {h : PP} (ho : h.get? d = some { cls := .type "dict", data := .dict #[⟨hashStr w k, .str k t, v⟩] c }) : h.DictOf (PO prog w) d [(k, v)] := by
 refine ⟨_, _, _, ho, ⟨rfl, rfl, rfl⟩, rfl, fun e he => ?_, .cons (j8 k t) rfl .nil, by simp⟩
 simp only [bq, mem_singleton] at he
 subst he
 exact ⟨k, j8 k t, rfl⟩
theorem XX {d : PE} {k : Str} {t : Tok} {v : Pu} {c : Nat} {h : PP} (ho : h.get? d = some { cls := .type "dict", data := .dict #[⟨hashStr w k, .str k t, v⟩] c }) : h.DictAt (PO prog w) d [(k, v)] c := by
 refine ⟨_, _, ho, ⟨rfl, rfl, rfl⟩, rfl, fun e he => ?_, .cons (j8 k t) rfl .nil, by simp⟩
 simp only [bq, mem_singleton] at he
 subst he
 exact ⟨k, j8 k t, rfl⟩
theorem Ym {d : PE} {c : Nat} {h : PP} (ho : h.get? d = some { cls := .type "dict", data := .dict #[] c }) : h.DictAt (PO prog w) d [] c :=
 ⟨_, _, ho, ⟨rfl, rfl, rfl⟩, rfl, fun e he => by simp at he, .nil, by simp⟩
theorem yk {d : PE} {c : Nat} {h : PP} (ho : h.get? d = some { cls := .type "dict", data := .dict #[] c }) : h.DictOf (PO prog w) d [] :=
 ⟨_, _, _, ho, ⟨rfl, rfl, rfl⟩, rfl, fun e he => by simp at he, .nil, by simp⟩
theorem kx {d : PE} {k : Str} {v : Pu} {c : Nat} {Q : Unit -> Py -> Prop} {E : Pu -> Py -> Prop} (ho : s.heap.get? d = some { cls := .type "dict", data := .dict #[] c })
 (h : ∀ h', h'.get? d = some { cls := .type "dict", data := .dict #[⟨hashStr w k, .str k s.toks, v⟩] (c + 1) } -> RK d s.heap h' -> Q () { s with heap := h', toks := s.toks + 1 }) : PQ (MM w) A (nsSet d k v) Q E s := by
 unfold nsSet strHash
 refine wpAny_bind (wpAny_bind (wpAny_askSetting (wpAny_pure ?_)))
 refine wpAny_bind (wpAny_mkText ?_)
 refine wpAny_bind (wpAny_loadPart (s := { s with toks := s.toks + 1 }) ho ?_)
 show PQ _ _ (if aRefKeyMayBeTheName k #[] = true then _ else _) _ _ _
 rw [if_neg (by rw [aRefKeyMayBeTheName_at]; simp)]
 refine wpAny_updatePart (s := { s with toks := s.toks + 1 }) ho ?_
 exact h _ (SP _ ho rfl) (TI ..)
abbrev Qs (w : Rk) (hT : PP) (r : Ev) (n : Nat) : Prop := ∀ A' outer env σ ρ₁ μ₁ s₁ body, qL w hT A' outer env σ ρ₁ μ₁ s₁.heap n -> j5 w hT A' env ρ₁ s₁ (execs body env) (r.ex σ body μ₁)
structure Zq (w : Rk) (hT : PP) (A : RE) (ρ : List PE) (s : Py) (a : PE) (vs : List Pu) (kws : List (Str × Pu)) (μ₁ : q4) (l : Loc) : Prop where
 go : ∀ E', PQ (MM w) A.in1 (RW (j7 w a) ⟨vs, kws⟩) (fun binds s₁ => ∃ h₁ tk₁ ρ₁, s₁ = { s with heap := h₁, toks := tk₁ } /\ s.toks <= tk₁ /\ Le [] ρ s.heap ρ₁ h₁ /\ SR w hT ρ₁ μ₁ h₁ /\ RvD hT ρ₁ h₁ binds l) E' s
theorem zE {r : Ev} {a : PE} {vs : List Pu} {ps : List PV} {kws : List (Str × Pu)} {kps : Loc} {names kwonly : List Str} {kwarg : Option Str} (_ : fK.contains a = true) (G : GF w hT) (S : SR w hT ρ μ s.heap) (K : Stk hT A ρ s.heap outer) (R : jX A (n + 1))
 (ok : YG w a names kwonly kwarg = true)
 (hb : ∀ f σ μ₁, f.names = names -> f.kwonly = kwonly -> f.kwarg = kwarg -> jB a f ps kps μ = some (σ, μ₁) -> σ.sc = f.sc /\ σ.vs.map (·.1) = names ++ kwonly ++ kwarg.toList /\ Zq w hT A ρ s a vs kws μ₁ σ.vs)
 (hex : Qs w hT r n) : v7 w hT A ρ s a vs kws (yq (ftK w) r a ps kps μ) := by
 intro ht res μ' hm Q E P
 obtain ⟨ok, o6⟩ := an ok
 obtain ⟨ok, o5⟩ := an ok
 obtain ⟨ok, o4⟩ := an ok
 obtain ⟨ok, o3⟩ := an ok
 obtain ⟨o1, o2⟩ := an ok
 have hfd := Wx o1
 obtain ⟨f, hf, hm⟩ := bnd hm
 obtain ⟨⟨σ, μ₁⟩, hbp, hm⟩ := bnd hm
 obtain ⟨_, hf⟩ := ifT hf
 rw [hfd] at hf
 have hf : fY (j7 w a) = some f := hf
 unfold fY at hf
 induction hbd : (j7 w a).body with
 | stmts body =>
   rw [hbd] at hf
   have hf := qk hf
   obtain ⟨q1, q2, q3⟩ := hb f σ μ₁ (by rw [<- hf]; exact eq_of_beq o3) (by rw [<- hf]; exact eq_of_beq o4) (by rw [<- hf]; exact eq_of_beq o5) hbp
   obtain ⟨h1, h2⟩ := GE o6
   rw [<- q2] at h1 h2
   exact KF (n := n) (μ₁ := μ₁) (σ := σ) (m := r.ex σ f.body μ₁) (body := f.body) G hfd o2 (by rw [hbd, <- hf]) (args := ⟨vs, kws⟩) S K R (by rw [q1, <- hf]) h1 h2 q3.go (fun env ρ₁ s₁ act => hex _ _ env _ ρ₁ μ₁ s₁ f.body act) ht res μ' hm Q E P
 | _ => rw [hbd] at hf; exact no hf
noncomputable def pB (l : List (Str × Pu)) : Sem (List (Str × Pu)) := pure l
theorem X8 {a : PE} {vs : List Pu} {kws : List (Str × Pu)} {l : List (Str × Pu)} {pl : Loc} (e : RW (j7 w a) ⟨vs, kws⟩ = pB l) (S : SR w hT ρ μ s.heap) (rd : RvD hT ρ s.heap l pl) : Zq w hT A ρ s a vs kws μ pl :=
 ⟨fun zz => e ▸ wpAny_pure ⟨s.heap, s.toks, ρ, rfl, PK _, Le.refl _ _ _, S, rd⟩⟩
noncomputable def H6 : Sem (List (Str × Pu)) -> Obj -> Sem (List (Str × Pu))
 | .load _ _ k => k
 | _ => fun zz => pB []
theorem jY {a d : PE} {o : Obj} {vs : List Pu} {l : List (Str × Pu)} {pl : Loc} (e : RW (j7 w a) ⟨vs, []⟩ = (load d >>= H6 (RW (j7 w a) ⟨vs, []⟩))) (ho : s.heap.get? d = some o) (e2 : H6 (RW (j7 w a) ⟨vs, []⟩) o = pB l)
 (S : SR w hT ρ μ s.heap) (rd : RvD hT ρ s.heap l pl) : Zq w hT A ρ s a vs [] μ pl := ⟨fun E' => by
 rw [e]
 exact wpAny_bind (c8 ho (e2 ▸ wpAny_pure ⟨s.heap, s.toks, ρ, rfl, PK _, Le.refl _ _ _, S, rd⟩))⟩
theorem gE {α : Type} {P : List α -> Prop} (h : ∀ a, P [a]) : ∀ l : List α, l.length = 1 -> P l := fun l e => by
 induction l using PD with
 | nil => cases e
 | cons a l => induction l using PD with
   | nil => exact h a
   | cons b l => cases e
theorem NG {α : Type} {n : Nat} {P : List α -> Prop} (h : ∀ a, ∀ l : List α, l.length = n -> P (a :: l)) : ∀ l : List α, l.length = n + 1 -> P l := fun l e => by
 induction l using PD with
 | nil => cases e
 | cons a l => exact h a l (Nat.succ.inj e)
theorem Yp {α : Type} {P : List α -> Prop} (h : ∀ a b, P [a, b]) : ∀ l : List α, l.length = 2 -> P l := NG fun a => gE (P := fun l => P (a :: l)) (h a)
theorem Fk {α : Type} {P : List α -> Prop} (h : ∀ a b c, P [a, b, c]) : ∀ l : List α, l.length = 3 -> P l := NG fun a => Yp (P := fun l => P (a :: l)) (h a)
noncomputable def jy (w : Rk) (a : PE) : List Str := (j7 w a).params.args.map (·.arg)
theorem fH (w : Rk) : ∀ q ∈ JO, ∀ vs : List Pu, vs.length = q.2 -> RW (j7 w q.1) ⟨vs, []⟩ = pB ((jy w q.1).zip vs) :=
 open List in
 forall_mem_cons.mpr ⟨gE fun a => (by kernel_rfl : RW (j7 w 38) ⟨[a], []⟩ = pB ((jy w 38).zip [a])),
 forall_mem_cons.mpr ⟨gE fun a => (by kernel_rfl : RW (j7 w 43) ⟨[a], []⟩ = pB ((jy w 43).zip [a])),
 forall_mem_cons.mpr ⟨gE fun a => (by kernel_rfl : RW (j7 w 196) ⟨[a], []⟩ = pB ((jy w 196).zip [a])),
 forall_mem_cons.mpr ⟨Yp fun a b => (by kernel_rfl : RW (j7 w 201) ⟨[a, b], []⟩ = pB ((jy w 201).zip [a, b])),
 forall_mem_cons.mpr ⟨gE fun a => (by kernel_rfl : RW (j7 w 208) ⟨[a], []⟩ = pB ((jy w 208).zip [a])),
 forall_mem_cons.mpr ⟨Yp fun a b => (by kernel_rfl : RW (j7 w 215) ⟨[a, b], []⟩ = pB ((jy w 215).zip [a, b])),
 forall_mem_cons.mpr ⟨Fk fun a b c => (by kernel_rfl : RW (j7 w 220) ⟨[a, b, c], []⟩ = pB ((jy w 220).zip [a, b, c])),
 forall_mem_cons.mpr ⟨Fk fun a b c => (by kernel_rfl : RW (j7 w 225) ⟨[a, b, c], []⟩ = pB ((jy w 225).zip [a, b, c])),
 forall_mem_cons.mpr ⟨gE fun a => (by kernel_rfl : RW (j7 w 230) ⟨[a], []⟩ = pB ((jy w 230).zip [a])),
 forall_mem_cons.mpr ⟨Yp fun a b => (by kernel_rfl : RW (j7 w 235) ⟨[a, b], []⟩ = pB ((jy w 235).zip [a, b])),
 forall_mem_cons.mpr ⟨gE fun a => (by kernel_rfl : RW (j7 w 240) ⟨[a], []⟩ = pB ((jy w 240).zip [a])),
 forall_mem_cons.mpr ⟨gE fun a => (by kernel_rfl : RW (j7 w 245) ⟨[a], []⟩ = pB ((jy w 245).zip [a])),
 forall_mem_cons.mpr ⟨gE fun a => (by kernel_rfl : RW (j7 w 250) ⟨[a], []⟩ = pB ((jy w 250).zip [a])),
 forall_mem_cons.mpr ⟨Fk fun a b c => (by kernel_rfl : RW (j7 w 102) ⟨[a, b, c], []⟩ = pB ((jy w 102).zip [a, b, c])),
 forall_mem_cons.mpr ⟨Yp fun a b => (by kernel_rfl : RW (j7 w 107) ⟨[a, b], []⟩ = pB ((jy w 107).zip [a, b])),
 forall_mem_cons.mpr ⟨Yp fun a b => (by kernel_rfl : RW (j7 w 121) ⟨[a, b], []⟩ = pB ((jy w 121).zip [a, b])),
 forall_mem_cons.mpr ⟨Yp fun a b => (by kernel_rfl : RW (j7 w 126) ⟨[a, b], []⟩ = pB ((jy w 126).zip [a, b])),
 forall_mem_cons.mpr ⟨gE fun a => (by kernel_rfl : RW (j7 w 163) ⟨[a], []⟩ = pB ((jy w 163).zip [a])),
 forall_mem_cons.mpr ⟨Fk fun a b c => (by kernel_rfl : RW (j7 w 177) ⟨[a, b, c], []⟩ = pB ((jy w 177).zip [a, b, c])),
 fun zz h => nomatch h⟩⟩⟩⟩⟩⟩⟩⟩⟩⟩⟩⟩⟩⟩⟩⟩⟩⟩⟩
theorem Yh (w : Rk) : (JO.all fun q => YG w q.1 (jy w q.1) [] none && (jy w q.1).length == q.2) = true := by kernel_rfl
theorem YJ {a : PE} (h : a ∈ vC) : Ql a = [] := by
 have : vC.all (fun a => (Ql a).isEmpty) = true := rfl
 exact Rf.mp (PT.mp this a h)
theorem y3 {a : PE} {f : Fn} {ps : List PV} {kps : Loc} (hk : f.kwonly = []) (ha : f.kwarg = none) (h : jB a f ps kps μ = some (σ, μ₁)) :
 ps.length <= f.names.length /\ f.names.length - ps.length <= (Ql a).length /\ kps = [] /\ σ = ⟨f.sc, f.names.zip (ps ++ (Ql a).drop ((Ql a).length - (f.names.length - ps.length)))⟩ /\ μ₁ = μ := by
 obtain ⟨hg, h⟩ := ifB h
 obtain ⟨h1, h2⟩ := orF hg
 dsimp only at h
 rw [hk, ha] at h
 obtain ⟨h3, h⟩ := ifT h
 obtain ⟨h4, h5⟩ := wU h
 exact ⟨Sh.mp (of_decide_eq_false h1), Sh.mp (of_decide_eq_false h2), Rf.mp h3, h4, h5⟩
theorem Q6 {r : Ev} {a : PE} {vs : List Pu} {ps : List PV} {kws : List (Str × Pu)} {kps : Loc} (ha : a ∈ vC) (G : GF w hT) (S : SR w hT ρ μ s.heap) (K : Stk hT A ρ s.heap outer) (R : jX A (n + 1)) (rvs : RvL hT ρ s.heap vs ps) (rkw : RvD hT ρ s.heap kws kps)
 (hex : Qs w hT r n) : v7 w hT A ρ s a vs kws (yq (ftK w) r a ps kps μ) := by
 obtain ⟨⟨_, k⟩, hq, rfl⟩ := Ri.mp ha
 obtain ⟨ok, hk⟩ := an (PT.mp (Yh w) _ hq)
 refine zE (RR.mpr (Ro _ ha)) G S K R ok (fun f σ μ₁ h1 h2 h3 hb => ?_) hex
 obtain ⟨g1, g2, rfl, rfl, rfl⟩ := y3 h2 h3 hb
 cases rkw
 rw [YJ ha] at g2 ⊢
 have hl := bL g1 (AC (Nat.le_zero.mp g2))
 rw [List.drop_nil, PS]
 rw [h1] at hl ⊢
 refine ⟨rfl, ?_, X8 (fH w _ hq vs (by rw [rvs.length, hl]; exact eq_of_beq hk)) S rvs.zip⟩
 exact (br (TB hl.symm)).trans ((PS _).trans (PS _)).symm
theorem d59 (w : Rk) : (KK w).lookup 59 = some { cls := .type "tuple", data := .seq #[.none, .int 1 397] } := by kernel_rfl
theorem d74 (w : Rk) : (KK w).lookup 74 = some { cls := .type "tuple", data := .seq #[.none] } := by kernel_rfl
theorem OX (w : Rk) : (KK w).lookup 127 = some { cls := .type "tuple", data := .seq #[.none] } := by kernel_rfl
theorem no4 {n : Nat} {p : Prop} (h : n + 1 + 1 + 1 + 1 <= 3) : p := absurd h (by lia)
theorem no3 {n : Nat} {p : Prop} (h : n + 1 + 1 + 1 <= 2) : p := absurd h (by lia)
theorem YY {r : Ev} {vs : List Pu} {ps : List PV} {kws : List (Str × Pu)} {kps : Loc} (G : GF w hT) (S : SR w hT ρ μ s.heap) (K : Stk hT A ρ s.heap outer) (R : jX A (n + 1)) (rvs : RvL hT ρ s.heap vs ps) (rkw : RvD hT ρ s.heap kws kps)
 (hex : Qs w hT r n) : v7 w hT A ρ s 66 vs kws (yq (ftK w) r 66 ps kps μ) := by
 have hT0 := S.top _ _ (G.1 59 _ (d59 w))
 refine zE (names := ["param", "value", "quote"]) (kwonly := []) (kwarg := none) rfl G S K R (by kernel_rfl) (fun f σ μ₁ h1 h2 h3 hb => ?_) hex
 obtain ⟨g1, g2, rfl, rfl, rfl⟩ := y3 h2 h3 hb
 cases rkw
 rw [h1] at g1 g2 ⊢
 cases rvs with
 | nil => exact absurd g2 (show ¬ (3 : Nat) <= 2 by decide)
 | cons a1 r1 => cases r1 with
   | nil => exact ⟨rfl, rfl, jY (by kernel_rfl) hT0 (by kernel_rfl) S (.cons a1 (.cons .none (.cons (.int 1 397) .nil)))⟩
   | cons a2 r2 => cases r2 with
     | nil => exact ⟨rfl, rfl, jY (by kernel_rfl) hT0 (by kernel_rfl) S (.cons a1 (.cons a2 (.cons (.int 1 397) .nil)))⟩
     | cons a3 r3 => cases r3 with
       | nil => exact ⟨rfl, rfl, jY (by kernel_rfl) hT0 (by kernel_rfl) S (.cons a1 (.cons a2 (.cons a3 .nil)))⟩
       | cons _ _ => exact no4 g1
theorem YE {r : Ev} {vs : List Pu} {ps : List PV} {kws : List (Str × Pu)} {kps : Loc} (G : GF w hT) (S : SR w hT ρ μ s.heap) (K : Stk hT A ρ s.heap outer) (R : jX A (n + 1)) (rvs : RvL hT ρ s.heap vs ps) (rkw : RvD hT ρ s.heap kws kps)
 (hex : Qs w hT r n) : v7 w hT A ρ s 81 vs kws (yq (ftK w) r 81 ps kps μ) := by
 have hT0 := S.top _ _ (G.1 74 _ (d74 w))
 refine zE (names := ["self", "headers"]) (kwonly := []) (kwarg := none) rfl G S K R (by kernel_rfl) (fun f σ μ₁ h1 h2 h3 hb => ?_) hex
 obtain ⟨g1, g2, rfl, rfl, rfl⟩ := y3 h2 h3 hb
 cases rkw
 rw [h1] at g1 g2 ⊢
 cases rvs with
 | nil => exact absurd g2 (show ¬ (2 : Nat) <= 1 by decide)
 | cons a1 r1 => cases r1 with
   | nil => exact ⟨rfl, rfl, jY (by kernel_rfl) hT0 (by kernel_rfl) S (.cons a1 (.cons .none .nil))⟩
   | cons a2 r2 => cases r2 with
     | nil => exact ⟨rfl, rfl, jY (by kernel_rfl) hT0 (by kernel_rfl) S (.cons a1 (.cons a2 .nil))⟩
     | cons _ _ => exact no3 g1
theorem ZU {r : Ev} {vs : List Pu} {ps : List PV} {kws : List (Str × Pu)} {kps : Loc} (G : GF w hT) (S : SR w hT ρ μ s.heap) (K : Stk hT A ρ s.heap outer) (R : jX A (n + 1)) (rvs : RvL hT ρ s.heap vs ps) (rkw : RvD hT ρ s.heap kws kps)
 (hex : Qs w hT r n) : v7 w hT A ρ s 134 vs kws (yq (ftK w) r 134 ps kps μ) := by
 have hT0 := S.top _ _ (G.1 127 _ (OX w))
 refine zE (names := ["self", "name", "default"]) (kwonly := []) (kwarg := none) rfl G S K R (by kernel_rfl) (fun f σ μ₁ h1 h2 h3 hb => ?_) hex
 obtain ⟨g1, g2, rfl, rfl, rfl⟩ := y3 h2 h3 hb
 cases rkw
 rw [h1] at g1 g2 ⊢
 cases rvs with
 | nil => exact absurd g2 (show ¬ (3 : Nat) <= 1 by decide)
 | cons a1 r1 => cases r1 with
   | nil => exact absurd g2 (show ¬ (2 : Nat) <= 1 by decide)
   | cons a2 r2 => cases r2 with
     | nil => exact ⟨rfl, rfl, jY (by kernel_rfl) hT0 (by kernel_rfl) S (.cons a1 (.cons a2 (.cons .none .nil)))⟩
     | cons a3 r3 => cases r3 with
       | nil => exact ⟨rfl, rfl, jY (by kernel_rfl) hT0 (by kernel_rfl) S (.cons a1 (.cons a2 (.cons a3 .nil)))⟩
       | cons _ _ => exact no4 g1
theorem b88 (w : Rk) (v1 v2 v3 : Pu) : RW (j7 w 88) ⟨[v1, v2], [("name", v3)]⟩ = pB [("self", v1), ("value", v2), ("name", v3)] := by kernel_rfl
theorem XU {r : Ev} {vs : List Pu} {ps : List PV} {kws : List (Str × Pu)} {kps : Loc} (G : GF w hT) (S : SR w hT ρ μ s.heap) (K : Stk hT A ρ s.heap outer) (R : jX A (n + 1)) (rvs : RvL hT ρ s.heap vs ps) (rkw : RvD hT ρ s.heap kws kps)
 (hex : Qs w hT r n) : v7 w hT A ρ s 88 vs kws (yq (ftK w) r 88 ps kps μ) := by
 refine zE (names := ["self", "value"]) (kwonly := ["name"]) (kwarg := none) rfl G S K R (by kernel_rfl) (fun f σ μ₁ h1 h2 h3 hb => ?_) hex
 obtain ⟨hg, h⟩ := ifB hb
 obtain ⟨g1, g2⟩ := orF hg
 have g1 := Sh.mp (of_decide_eq_false g1)
 have g2 := Sh.mp (of_decide_eq_false g2)
 clear hb hg
 dsimp only at h
 rw [h2, h3] at h
 dsimp only at h
 obtain ⟨_, h4⟩ := ifT h
 obtain ⟨q, hq, h5⟩ := bnd h4
 obtain ⟨hk, h6⟩ := ifT h5
 have e := jM hq
 subst e
 obtain ⟨e1, e2⟩ := wU h6
 clear h4 h5 h6 h hq
 subst e1 e2
 rw [h1] at g1 g2 ⊢
 rw [show Ql 88 = [] from rfl] at g2 ⊢
 cases rkw with | cons b1 rb =>
 cases rb
 have e := eq_of_beq hk
 dsimp only at e
 subst e
 cases rvs with
 | nil => exact absurd g2 (show ¬ (2 : Nat) <= 0 by decide)
 | cons a1 r1 => cases r1 with
   | nil => exact absurd g2 (show ¬ (1 : Nat) <= 0 by decide)
   | cons a2 r2 => cases r2 with
     | nil =>
       exact ⟨rfl, rfl, X8 (b88 w _ _ _) S (.cons a1 (.cons a2 (.cons b1 .nil)))⟩
     | cons _ _ => exact no3 g1
theorem L5 (w : Rk) (v1 v2 v3 : Pu) : RW (j7 w 184) ⟨[v1, v2, v3], []⟩ = (alloc { cls := .type "dict", data := .dict #[] } >>= fun d => pB [("self", v1), ("_name", v2), ("_value", v3), ("_params", .ref d)]) := by kernel_rfl
theorem IO (w : Rk) (v1 v2 v3 v : Pu) : ∀ k ∈ yi, RW (j7 w 184) ⟨[v1, v2, v3], [(k, v)]⟩ = (alloc { cls := .type "dict", data := .dict #[] } >>= fun d => (ba [(k, v)] Ui (fun (x : Str × Pu) zz => do nsSet d x.1 x.2; pure (SI Ui)) : Sem PUnit) >>= fun zz => pB [("self", v1), ("_name", v2), ("_value", v3), ("_params", .ref d)]) :=
 List.map_inj_left.mp (by kernel_rfl)
theorem GL {v1 v2 v3 : Pu} {p1 p2 p3 : PV} {kws : List (Str × Pu)} {kps : Loc} (S : SR w hT ρ μ s.heap) (a1 : Rv hT ρ s.heap v1 p1) (a2 : Rv hT ρ s.heap v2 p2) (a3 : Rv hT ρ s.heap v3 p3) (rkw : RvD hT ρ s.heap kws kps) (hl : kps.length <= 1) (hk : kps.all (fun kv => yi.contains kv.1) = true) :
 Zq w hT A ρ s 184 [v1, v2, v3] kws (μ ++ [.kw kps]) [("self", p1), ("_name", p2), ("_value", p3), ("_params", .loc μ.length)] := by
 constructor
 intro E'
 have hx : ∃ more, ρ ++ [s.heap.objs.size] = ρ ++ more := ⟨_, rfl⟩
 have all : ∀ {h'}, Kv s.heap h' -> RvD hT (ρ ++ [s.heap.objs.size]) h' [("self", v1), ("_name", v2), ("_value", v3), ("_params", .ref s.heap.objs.size)] [("self", p1), ("_name", p2), ("_value", p3), ("_params", .loc μ.length)] := fun kv => .cons (a1.mono hx kv) (.cons (a2.mono hx kv) (.cons (a3.mono hx kv) (.cons (.loc (jD S)) .nil)))
 cases rkw with
 | nil =>
   rw [L5]
   exact wpAny_bind (AT (wpAny_pure ⟨_, s.toks, ρ ++ [s.heap.objs.size], rfl, PK _, Le.cell _, S.cell (c := .kw []) ⟨[], Ym (c := 0) (Rg _ rfl), .nil⟩, all (Kv.of_keeps (qg _ _))⟩))
 | @cons k v p _ _ b1 rb =>
   induction rb with
   | cons _ _ => exact absurd hl (Nat.not_le.mpr (Nat.succ_lt_succ (Nat.succ_pos _)))
   | nil =>
     rw [IO w v1 v2 v3 v k (RR.mp (an hk).1)]
     refine wpAny_bind (AT (wpAny_bind ?_))
     rw [SJ]
     refine wpAny_bind (wpAny_bind (kx (c := 0) (Rg _ rfl) fun h' ho' hsb => wpAny_pure (wpAny_pure (wpAny_pure ?_))))
     have hks : ∀ b o, s.heap.get? b = some o -> h'.get? b = some o := fun b o e => (hsb.2 b (RQ (RJ e))).trans (qg s.heap _ b o e)
     have kv : Kv s.heap h' := Kv.of_keeps hks
     have S1 : SR w hT (ρ ++ [s.heap.objs.size]) (μ ++ [.dict []]) (s.heap.push { cls := .type "dict", data := .dict #[] }) := S.cell ⟨[], yk (c := 0) (Rg _ rfl), .nil⟩
     have S2 := S1.set (n := μ.length) (c := .kw [(k, p)]) (jD S) hsb ⟨[(k, v)], XX ho', .cons (b1.mono hx kv) .nil⟩
     rw [show qj (μ ++ [.dict []]) μ.length (.kw [(k, p)]) = μ ++ [.kw [(k, p)]] by unfold qj; simp] at S2
     exact ⟨h', s.toks + 1, ρ ++ [s.heap.objs.size], rfl, U5 _, (Le.cell _).trans (Le.set (Ra _ (.head _)) hsb ⟨_, ho'⟩), S2, all kv⟩
theorem Zm {r : Ev} {vs : List Pu} {ps : List PV} {kws : List (Str × Pu)} {kps : Loc} (G : GF w hT) (S : SR w hT ρ μ s.heap) (K : Stk hT A ρ s.heap outer) (R : jX A (n + 1)) (rvs : RvL hT ρ s.heap vs ps) (rkw : RvD hT ρ s.heap kws kps)
 (hex : Qs w hT r n) : v7 w hT A ρ s 184 vs kws (yq (ftK w) r 184 ps kps μ) := by
 refine zE (names := ["self", "_name", "_value"]) (kwonly := []) (kwarg := some "_params") rfl G S K R (by kernel_rfl) (fun f σ μ₁ h1 h2 h3 hb => ?_) hex
 obtain ⟨hg, h⟩ := ifB hb
 obtain ⟨g1, g2⟩ := orF hg
 have g1 := Sh.mp (of_decide_eq_false g1)
 have g2 := Sh.mp (of_decide_eq_false g2)
 clear hb hg
 dsimp only at h
 rw [h3] at h
 dsimp only at h
 obtain ⟨hk, h4⟩ := ifT h
 obtain ⟨e1, e2⟩ := wU h4
 clear h h4
 subst e1 e2
 rw [h1] at g1 g2 ⊢
 rw [show Ql 184 = [] from rfl] at g2 ⊢
 have hl := bL g1 (AC (Nat.le_zero.mp g2))
 revert rvs
 have fin : ∀ ps : List PV, ps.length = 3 -> ∀ vs, RvL hT ρ s.heap vs ps -> Zq w hT A ρ s 184 vs kws (μ ++ [.kw kps]) (List.zip ([Pv "self", Pv "_name", Pv "_value"] : List Str) ps ++ [(Pv "_params", PV.loc μ.length)]) := Fk fun p1 p2 p3 vs rvs => by
  cases rvs with | cons a1 r1 =>
  cases r1 with | cons a2 r2 =>
  cases r2 with | cons a3 r3 =>
  cases r3
  exact GL S a1 a2 a3 rkw (of_decide_eq_true (an (an hk).1).2) (an hk).2
 intro rvs
 rw [List.drop_nil, PS]
 refine ⟨rfl, ?_, fin ps hl vs rvs⟩
 rw [Rt, br (TB hl.symm)]
 rfl
theorem GM {r : Ev} {a : PE} {vs : List Pu} {ps : List PV} {kws : List (Str × Pu)} {kps : Loc} (G : GF w hT) (S : SR w hT ρ μ s.heap) (K : Stk hT A ρ s.heap outer) (R : jX A (n + 1)) (rvs : RvL hT ρ s.heap vs ps) (rkw : RvD hT ρ s.heap kws kps)
 (hex : Qs w hT r n) : v7 w hT A ρ s a vs kws (yq (ftK w) r a ps kps μ) := by
 by_cases hm : fK.contains a = true
 ·rcases PU.mp (RR.mp hm) with q | q
  ·exact Q6 q G S K R rvs rkw hex
  ·rcases Rq.mp q with rfl | q
   ·exact YY G S K R rvs rkw hex
   rcases Rq.mp q with rfl | q
   ·exact YE G S K R rvs rkw hex
   rcases Rq.mp q with rfl | q
   ·exact ZU G S K R rvs rkw hex
   rcases Rq.mp q with rfl | q
   ·exact XU G S K R rvs rkw hex
   rw [Pw.mp q]
   exact Zm G S K R rvs rkw hex
 ·intro _ res μ' hmm
  obtain ⟨f, h1, _⟩ := bnd hmm
  exact absurd (ifT h1).1 hm
end
abbrev j4 (w : Rk) (hT : PP) (r : Ev) (n : Nat) : Prop := ∀ A l env σ ρ μ s e, Act w hT A l env σ ρ μ s.heap n -> Sim w hT A (Rv hT) ρ s (eval e env) (r.ev σ e μ)
abbrev jR (w : Rk) (hT : PP) (r : Ev) (n : Nat) : Prop := ∀ A l ρ μ s a vs ps kws kps, SR w hT ρ μ s.heap -> Stk hT A ρ s.heap l -> jX A n -> RvL hT ρ s.heap vs ps -> RvD hT ρ s.heap kws kps -> v7 w hT A ρ s a vs kws (r.call a ps kps μ)
structure Pp (w : Rk) (hT : PP) (r : Ev) (n : Nat) : Prop where
 ev : j4 w hT r n
 ex : Qs w hT r n
 call : jR w hT r n
section
variable {w : Rk} {hT : PP} {A : RE} {l : List Env} {ρ ρ' : List PE} {μ μ₁ μ' : q4} {s : Py} {n : Nat} {env : Env} {outer : List Env} {σ σ' : LE} {h h' : PP} {r : Ev}
theorem Act.down (X : Act w hT A l env σ ρ μ h (n + 1)) : Act w hT A l env σ ρ μ h n := ⟨X.sr, X.er, X.sk, X.rm.mono (by lia)⟩
theorem x8 (H : j4 w hT r n) (es : List Expr) : ∀ {ρ : List PE} {μ : q4} {s : Py}, Act w hT A l env σ ρ μ s.heap n -> Sim w hT A (RvL hT) ρ s (Am (es.map fun e => (false, eval e env))) (evL r σ es μ) := by
 induction es with
 | nil => exact fun X ht r' μ' hm Q E P => Ta (P.now (tk := _) (a := []) hm X.sr .nil ht)
 | cons e es ih =>
   intro ρ μ s X ht r' μ' hm Q E P
   refine spliced_cons ?_
   refine (H A l env σ ρ μ s e X).andThen ht hm P fun v h₁ tk₁ ρ₁ p μ₁ x1 S1 rv ht1 hm1 P1 => ?_
   refine (ih (X.le x1 S1)).andThen ht1 hm1 P1 fun vs h₂ tk₂ ρ₂ ps μ₂ x2 S2 rvs ht2 hm2 P2 => ?_
   exact (P2.of hm2).ok (v :: vs) h₂ tk₂ ρ₂ (p :: ps) rfl (Le.refl _ _ _) S2 (.cons (rv.le S1 x2) rvs) ht2
theorem gK {es : List Expr} (h : es.any qf = false) : es.all (!qf ·) = true := by
 rw [List.all_eq_not_any_not]
 simpa using h
theorem KT {es : List Expr} {k : Nat} {pos : Pos} (H : j4 w hT r n) (X : Act w hT A l env σ ρ μ s.heap n) : Sim w hT A (Rv hT) ρ s (eval (.Tuple es k pos) env) (KM r σ es μ) := by
 intro ht r' μ' hm Q E P
 refine iB hm fun hs hm => ?_
 refine wpAny_Tuple ?_
 rw [q9 (gK hs)]
 refine (x8 H es X).andThen ht hm P fun vs h₁ tk₁ ρ₁ ps μ₁ x1 S1 rvs ht1 hm1 P1 => ?_
 refine iT hm1 fun hlen hm1 => ?_
 have hk := qg h₁ { cls := .type "tuple", data := .seq vs.toArray }
 exact ⟨rvs.length ▸ hlen, (P1.of hm1).ok _ _ tk₁ ρ₁ _ rfl (Le.of_keeps hk) (S1.keeps hk) (.tup ⟨_, Rg _ rfl, rfl, 0, rfl⟩ (rvs.mono ⟨[], (PS _).symm⟩ (Kv.of_keeps hk))) ht1⟩
theorem xH.p0 {α β : Type} {rel : List PE -> PP -> α -> β -> Prop} {r : Except Exn β} {Q : α -> Py -> Prop} {E : Pu -> Py -> Prop} (P : xH w hT rel ρ s r μ' Q E) : xT w hT rel ρ s r μ' (fun a s' => 1 <= s'.toks -> Q a s') (fun e s' => 1 <= s'.toks -> E e s') :=
 ⟨fun a h' tk ρ' b e1 e2 e3 e4 ht => P.ok a h' tk ρ' b e1 e2 e3 e4 ht, fun e h' tk ρ' x e1 e2 e3 e4 ht => P.err e h' tk ρ' x e1 e2 e3 e4 ht⟩
theorem Cg {es : List Expr} {pos : Pos} (H : j4 w hT r n) (X : Act w hT A l env σ ρ μ s.heap n) : Sim w hT A (Rv hT) ρ s (eval (.List es pos) env) (EZ r σ es μ) := by
 intro ht r' μ' hm Q E P
 refine iB hm fun hs hm => ?_
 refine wpAny_List ?_
 rw [q9 (gK hs)]
 refine (x8 H es X).andThen ht hm P fun vs h₁ tk₁ ρ₁ ps μ₁ x1 S1 rvs ht1 hm1 P1 => ?_
 have hm1 := zI hm1
 exact ⟨rvs.length ▸ hm1.1, xe (k := 0) (tk := tk₁) (s := { s with heap := h₁, toks := tk₁ }) S1 rvs hm1.1 hm1.2 P1.p0 ht1⟩
theorem Xa {c : Um} {k : Nat} {pos : Pos} (X : Act w hT A l env σ ρ μ s.heap n) : Sim w hT A (Rv hT) ρ s (eval (.Constant c k pos) env) ((wX c).map fun p => (.ok p, μ)) := by
 refine Sim.of0 fun r' μ' hm Q E P => mK hm fun p hp hm1 => ?_
 clear hm
 induction c <;> first | exact no hp | skip
 ·cases qk (show some PV.none = some p from hp); exact av (P.pret (tk := s.toks) hm1 X.sr .none)
 ·cases qk (show some (PV.bool _) = some p from hp); exact aw (P.pret (tk := s.toks) hm1 X.sr (.bool _))
 ·cases qk (show some (PV.int _) = some p from hp); exact U2 (P.pret hm1 X.sr (.int _ _))
 ·refine iT hp fun hl hp => ?_
  cases qk hp; exact Sj (P.pret hm1 X.sr (.str _ _ (Pq hl (by decide))))
abbrev Hl (w : Rk) (hT : PP) : Prop := ∀ A ρ μ s x t v p, SR w hT ρ μ s.heap -> Rv hT ρ s.heap v p -> x.length <= Pr -> Sim w hT A (Rv hT) ρ s (A6 .Mod (.str x t) v) (I6 x p μ)
theorem KU {e₁ e₂ : Expr} {op : AH} {pos : Pos} (H : j4 w hT r n) (HM : Hl w hT) (X : Act w hT A l env σ ρ μ s.heap n) : Sim w hT A (Rv hT) ρ s (eval (.BinOp e₁ op e₂ pos) env) (qa (r.ev σ e₁ μ) fun a μ => qa (r.ev σ e₂ μ) fun b => kK op a b) := by
 intro ht r' μ' hm Q E P
 refine wpAny_BinOp ?_
 refine (H A l env σ ρ μ s e₁ X).andThen ht hm P fun a h₁ tk₁ ρ₁ p μ₁ x1 S1 ra ht1 hm1 P1 => ?_
 refine (H A l env σ ρ₁ μ₁ { s with heap := h₁, toks := tk₁ } e₂ (X.le x1 S1)).andThen ht1 hm1 P1 fun b h₂ tk₂ ρ₂ q μ₂ x2 S2 rb ht2 hm2 P2 => ?_
 exact CU (s := { s with heap := h₂, toks := tk₂ }) S2 (ra.le S1 x2) rb (fun x t e zz hx => e ▸ HM _ _ _ _ _ _ _ _ S2 rb hx) ht2 _ _ hm2 Q E P2
theorem E0 (w : Rk) : EW.all (fun q => !(q.1 == ("__debug__" : Str)) && !(q.1 == ("__name__" : Str)) && (V1 q.2).any fun v => nsIn (KK w) mainGlobals q.1 == some (some v) || (nsIn (KK w) mainGlobals q.1 == some none && Ub q.1 == some v)) = true := by kernel_rfl
theorem DS {x : Str} {pos : Pos} (G : GF w hT) (X : Act w hT A l env σ ρ μ s.heap n) : Sim w hT A (Rv hT) ρ s (eval (.Name x pos) env) (fc σ x μ) := by
 refine Sim.of0 fun r' μ' hm Q E P => ?_
 unfold fc at hm
 cases hd : (x == ("__debug__" : Str)) with
 | true =>
   rw [hd] at hm
   have e := qb hd
   subst e
   show PQ _ _ (do standAt pos; debugConstant) _ _ s
   exact wpAny_bind (wpAny_standAt (wpAny_bind (aP (wpAny_pure (P.pret (tk := s.toks) hm X.sr (.bool _))))))
 | false =>
   rw [hd] at hm
   induction hx : σ.get x with
   | some p =>
     rw [hx] at hm
     exact vD X.er hx hd fun v rv => P.pret (tk := s.toks) hm X.sr rv
   | none =>
     rw [hx] at hm
     refine iT hm fun hg hm => mK hm fun p hp hm => ?_
     have q := an (PT.mp (E0 w) _ (mem_of_lookup hp))
     obtain ⟨v, hv, q2⟩ := xX q.2
     have fin : Q v s := P.pret (tk := s.toks) hm X.sr (show Rv hT ρ s.heap v p from (vU hv : p = PV.val v) ▸ .val v)
     rcases Tk _ _ ▸ q2 with q2 | q2
     ·exact vF G X.er X.sr hg (eq_of_beq q2) hd fin
     ·exact zN G X.er X.sr hg (eq_of_beq (an q2).1) (eq_of_beq (an q2).2) (fun e => by rw [e] at q; exact noB ((nt (an q.1).2).symm.trans (beq_self_eq_true _))) hd fin
end
section
variable {w : Rk} {hT : PP} {A : RE} {l' : List Env} {ρ ρ' : List PE} {μ μ₁ μ' : q4} {s : Py} {n : Nat} {env : Env} {outer : List Env} {σ σ' : LE} {h h' : PP} {r : Ev}
theorem wJ {o : Expr} {name : Str} {env : Env} (h : qT o = true) : attributeBase o name env (eval o env) = eval o env := by
 induction o using PC with
 | Call f as ks p => induction f using PC with
   | Name x q => induction as using PD with
     | nil => induction ks using PD with
       | nil => exact noB h
       | cons _ _ => rfl
     | cons _ _ => rfl
   | _ => rfl
 | _ => rfl
theorem kB {op : Uv} {e : Expr} (h : yt e = false) : behindInMarks op e = false := by
 induction e using PC <;> first | rfl | cases h
theorem kE {e : Expr} {c : PR PV} {res : Except Exn Bool} {Q : Bool -> Py -> Prop} {E : Pu -> Py -> Prop} (H : Sim w hT A (Rv hT) ρ s (eval e env) c) (ht : 1 <= s.toks)
 (hm : qa c tru = some (res, μ')) (P : xH w hT (fun zz zz a b => a = b) ρ s res μ' Q E) : PQ (MM w) A (eval e env) (fun v s₁ => PQ (MM w) A (bm v) Q E s₁) E s :=
 H.andThen ht hm P fun v h₁ tk₁ ρ₁ p μ₁ x1 S1 rv ht1 hm1 P1 => wi S1 rv ht1 _ _ hm1 Q E P1
theorem Fa {l : Expr} {ops : List Uv} {xs : List Expr} {p : Pos} (H : j4 w hT r n) (X : Act w hT A l' env σ ρ μ s.heap n) : Sim w hT A (fun zz zz a b => a = b) ρ s (isTrue (.Compare l ops xs p) env (eval (.Compare l ops xs p) env)) (IX r σ l ops xs μ) := by
 intro ht r' μ' hm Q E P
 induction ops using PD with
 | nil => exact no hm
 | cons op ops =>
 induction ops using PD with
 | cons _ _ => exact no hm
 | nil =>
 induction xs using PD with
 | nil => exact no hm
 | cons x xs =>
 induction xs using PD with
 | cons _ _ => exact no hm
 | nil =>
 refine iB hm fun hs hm => wpAny_isTrue_Compare1 ?_ (kB hs)
 refine (H A _ env σ ρ μ s l X).andThen ht hm P fun a h₁ tk₁ ρ₁ p μ₁ x1 S1 ra ht1 hm1 P1 => ?_
 refine (H A _ env σ ρ₁ μ₁ { s with heap := h₁, toks := tk₁ } x (X.le x1 S1)).andThen ht1 hm1 P1 fun b h₂ tk₂ ρ₂ q μ₂ x2 S2 rb ht2 hm2 P2 => ?_
 refine (V6 (s := { s with heap := h₂, toks := tk₂ }) S2 X.rm (ra.le S1 x2) rb).andThen ht2 hm2 P2 fun c h₃ tk₃ ρ₃ t μ₃ x3 S3 rc ht3 hm3 P3 => ?_
 exact wi (s := { s with heap := h₃, toks := tk₃ }) S3 rc ht3 _ _ hm3 Q E P3
theorem KE {f : Expr} {args : List Expr} {kws : List SE} {pos : Pos} (G : GF w hT) (H : j4 w hT r n) (X : Act w hT A l' env σ ρ μ s.heap n) : Sim w hT A (fun zz zz a b => a = b) ρ s (isTrue (.Call f args kws pos) env (eval (.Call f args kws pos) env)) (Wm r σ f args kws pos μ) := by
 intro ht r' μ' hm Q E P
 refine bK hm fun a ha hma => ?_
 clear hm
 have ea := wP ha
 clear ha
 subst ea
 induction args using PD with
 | nil => exact no hma
 | cons e args =>
 induction args using PD with
 | cons _ _ => exact no hma
 | nil =>
 refine iT hma fun hg hm => ?_
 clear hma
 have g4 := an hg
 have g3 := an g4.1
 have g2 := an g3.1
 have g1 := an g2.1
 have ek := Rf.mp g1.2
 obtain ⟨o, name, apos⟩ := a
 have en := qb g1.1
 dsimp only at en
 subst ek en
 have hst : [e].all (!qf ·) = true := by rw [Uk, g4.2]; rfl
 refine bc (wpAny_Call_method_lateS (wJ g2.2) ?_ g3.2 ?_)
 ·rw [q9 hst]; rfl
 ·refine (H A _ env σ ρ μ s o X).andThen ht hm P fun a h₁ tk₁ ρ₁ p μ₁ x1 S1 ra ht1 hm1 P1 => iT hm1 fun hpat hm1 => ?_
  obtain ⟨T, m1, m2, m3, m4, m5⟩ := Qr (s := { s with heap := h₁, toks := tk₁ }) G S1 ra hpat
  refine ⟨T, _, m1, m2, m3, m4, m5, ?_⟩
  rw [q9 hst]
  refine w0 ?_
  refine (H A _ env σ ρ₁ μ₁ { s with heap := h₁, toks := tk₁ } e (X.le x1 S1)).andThen ht1 hm1 P1 fun v h₂ tk₂ ρ₂ q μ₂ x2 S2 rv ht2 hm2 P2 => ?_
  exact RG (jk ht2 (RG (YW (A := A) (s := { s with heap := h₂, toks := tk₂ }) G S2 (ra.le S1 x2) rv _ _ hm2 _ _ P2.p0) (fun v s' q ht' => jk ht' q) fun zz zz q => q)) (fun zz zz q => q) fun zz zz q => q
theorem Sim.none {α β : Type} {rel : List PE -> PP -> α -> β -> Prop} {t : Sem α} : Sim w hT A rel ρ s t none := fun zz zz zz hm => no hm
abbrev Yq (w : Rk) (hT : PP) (A : RE) (l : List Env) (env : Env) (σ : LE) (r : Ev) (n : Nat) (e : Expr) : Prop := ∀ {ρ : List PE} {μ : q4} {s : Py}, Act w hT A l env σ ρ μ s.heap n -> Sim w hT A (fun zz zz a b => a = b) ρ s (isTrue e env (eval e env)) (xj r σ e μ)
theorem Vu {op : UY} {pos : Pos} {whole : Sem Pu} {k : Nat} (ih : ∀ e, c9 e < k -> Yq w hT A l' env σ r n e) (es : List Expr) : c9 es < k -> ∀ {ρ : List PE} {μ : q4} {s : Py}, Act w hT A l' env σ ρ μ s.heap n ->
 Sim w hT A (fun zz zz a b => a = b) ρ s (isTrue (.BoolOp op es pos) env whole) (evTests r σ (Xd op) es μ) := by
 induction es with
 | nil =>
   intro _ ρ μ s X ht r' μ' hm Q E P
   cases op
   ·exact isTrue_and_nil (P.now (tk := s.toks) hm X.sr rfl ht)
   ·exact isTrue_or_nil (P.now (tk := s.toks) hm X.sr rfl ht)
 | cons e es ihs =>
   intro hk ρ μ s X ht r' μ' hm Q E P
   rw [AD] at hk
   have h1 := ih e (by lia) X
   have h2 := @ihs (by lia)
   cases op
   ·refine isTrue_and (h1.andThen ht hm P fun b h₁ tk₁ ρ₁ c μ₁ x1 S1 rv ht1 hm1 P1 => ?_)
    subst rv
    induction b with
    | false => exact P1.now (s := { s with heap := h₁, toks := tk₁ }) hm1 S1 rfl ht1
    | true => exact h2 (s := { s with heap := h₁, toks := tk₁ }) (X.le x1 S1) ht1 _ _ hm1 Q E P1
   ·refine isTrue_or (h1.andThen ht hm P fun b h₁ tk₁ ρ₁ c μ₁ x1 S1 rv ht1 hm1 P1 => ?_)
    subst rv
    induction b with
    | true => exact P1.now (s := { s with heap := h₁, toks := tk₁ }) hm1 S1 rfl ht1
    | false => exact h2 (s := { s with heap := h₁, toks := tk₁ }) (X.le x1 S1) ht1 _ _ hm1 Q E P1
theorem KG (G : GF w hT) (H : j4 w hT r n) (k : Nat) : ∀ (e : Expr), c9 e < k -> Yq w hT A l' env σ r n e := by
 induction k with
 | zero => exact fun zz h => absurd h (Au _)
 | succ k ih =>
   intro e hk ρ μ s X
   induction e using PC with
   | UnaryOp op x p =>
     rw [A0] at hk
     have hx := ih x (by lia) X
     induction op with
     | Not =>
       intro ht r' μ' hm Q E P
       refine isTrue_not (hx.andThen ht hm P fun b h₁ tk₁ ρ₁ c μ₁ x1 S1 rv ht1 hm1 P1 => ?_)
       subst rv
       exact P1.now (s := { s with heap := h₁, toks := tk₁ }) hm1 S1 rfl ht1
     | _ => exact Sim.none
   | BoolOp op es p =>
     rw [Aa] at hk
     exact Vu ih es (by lia) X
   | Compare a ops bs p => exact Fa H X
   | Call f args kws p => exact KE G H X
   | Name x p => exact fun ht r' μ' hm Q E P => bc (kE (H A _ env σ ρ μ s _ X) ht hm P)
   | Constant c k p => exact fun ht r' μ' hm Q E P => bc (kE (H A _ env σ ρ μ s _ X) ht hm P)
   | _ => exact Sim.none
theorem fm (G : GF w hT) (H : j4 w hT r n) (e : Expr) : Yq w hT A l' env σ r n e := KG G H _ e (RU _)
end
section
variable {w : Rk} {hT : PP} {A : RE} {l : List Env} {ρ ρ' : List PE} {μ μ₁ μ' : q4} {s : Py} {n : Nat} {env : Env} {outer : List Env} {σ σ' : LE} {h h' : PP} {r : Ev}
theorem NS {op : UY} {es : List Expr} {pos : Pos} (H : j4 w hT r n) (X : Act w hT A l env σ ρ μ s.heap n) : Sim w hT A (Rv hT) ρ s (eval (.BoolOp op es pos) env) (GQ r σ op es μ) := by
 intro ht r' μ' hm Q E P
 induction op with
 | And => exact no hm
 | Or =>
 refine bK hm fun q hq hm => ?_
 have e := gj hq
 subst e
 refine wpAny_Or2 ?_
 refine (H A l env σ ρ μ s q.1 X).andThen ht hm P fun a h₁ tk₁ ρ₁ p μ₁ x1 S1 ra ht1 hm1 P1 => ?_
 refine (wi (s := { s with heap := h₁, toks := tk₁ }) S1 ra).andThen ht1 hm1 P1 fun c h₂ tk₂ ρ₂ q' μ₂ x2 S2 rc ht2 hm2 P2 => ?_
 subst rc
 induction c with
 | true => exact P2.now (s := { s with heap := h₂, toks := tk₂ }) hm2 S2 (ra.le S1 x2) ht2
 | false => exact H A l env σ ρ₂ μ₂ { s with heap := h₂, toks := tk₂ } q.2 ((X.le x1 S1).le x2 S2) ht2 _ _ hm2 Q E P2
theorem G5 {t e₁ e₂ : Expr} {pos : Pos} (G : GF w hT) (H : j4 w hT r n) (X : Act w hT A l env σ ρ μ s.heap n) : Sim w hT A (Rv hT) ρ s (eval (.IfExp t e₁ e₂ pos) env) (qa (xj r σ t μ) fun c => if c then r.ev σ e₁ else r.ev σ e₂) := by
 intro ht r' μ' hm Q E P
 refine wpAny_IfExp ?_
 refine (fm G H t X).andThen ht hm P fun a h₁ tk₁ ρ₁ p μ₁ x1 S1 ra ht1 hm1 P1 => ?_
 subst ra
 induction a with
 | true => exact H A l env σ ρ₁ μ₁ { s with heap := h₁, toks := tk₁ } e₁ (X.le x1 S1) ht1 _ _ hm1 Q E P1
 | false => exact H A l env σ ρ₁ μ₁ { s with heap := h₁, toks := tk₁ } e₂ (X.le x1 S1) ht1 _ _ hm1 Q E P1
theorem BZ {v i : Expr} {pos : Pos} (H : j4 w hT r n) (X : Act w hT A l env σ ρ μ s.heap n) (hi : vc i = false) : Sim w hT A (Rv hT) ρ s (eval (.Subscript v i pos) env) (qa (r.ev σ v μ) fun a μ => qa (r.ev σ i μ) fun b => za a b) := by
 intro ht r' μ' hm Q E P
 refine Subscript_ ?_
 refine (H A l env σ ρ μ s v X).andThen ht hm P fun a h₁ tk₁ ρ₁ p μ₁ x1 S1 ra ht1 hm1 P1 => ?_
 refine (H A l env σ ρ₁ μ₁ { s with heap := h₁, toks := tk₁ } i (X.le x1 S1)).andThen ht1 hm1 P1 fun b h₂ tk₂ ρ₂ q μ₂ x2 S2 rb ht2 hm2 P2 => ?_
 exact GW (s := { s with heap := h₂, toks := tk₂ }) S2 X.rm hi (ra.le S1 x2) rb ht2 _ _ hm2 Q E P2
theorem QR (H : j4 w hT r n) {o : Option Expr} (X : Act w hT A l env σ ρ μ s.heap n) : Sim w hT A (RvO hT) ρ s (evalPart o env) (WF r σ o μ) := by
 intro ht r' μ' hm Q E P
 induction o with
 | none =>
   rw [aF]
   exact wpAny_pure (P.now (tk := s.toks) (a := U1) hm X.sr (rfl : RvO hT ρ s.heap .none none) ht)
 | some e =>
   rw [evalPart_some]
   refine (H A l env σ ρ μ s e X).andThen ht hm P fun a h₁ tk₁ ρ₁ p μ₁ x1 S1 ra ht1 hm1 P1 => ?_
   exact P1.now (s := { s with heap := h₁, toks := tk₁ }) hm1 S1 (show RvO hT ρ₁ h₁ a (some p) from ra) ht1
theorem RvO.le {v : Pu} {o : Option PV} (x : RvO hT ρ h v o) (S : SR w hT ρ μ h) (y : Le [] ρ h ρ' h') : RvO hT ρ' h' v o := by
 induction o with
 | none => exact x
 | some p => exact Rv.le (w := w) (μ := μ) x S y
theorem KX {v : Expr} {lo hi : Option Expr} {p pos : Pos} (H : j4 w hT r n) (X : Act w hT A l env σ ρ μ s.heap n) : Sim w hT A (Rv hT) ρ s (eval (.Subscript v (.Slice lo hi none p) pos) env) (YP r σ v lo hi none μ) := by
 intro ht r' μ' hm Q E P
 refine Subscript_ ?_
 refine (H A l env σ ρ μ s v X).andThen ht hm P fun a h₁ tk₁ ρ₁ pa μ₁ x1 S1 ra ht1 hm1 P1 => ?_
 refine wpAny_Slice ?_
 have X1 := X.le x1 S1
 refine (QR (s := { s with heap := h₁, toks := tk₁ }) H X1).andThen ht1 hm1 P1 fun vl h₂ tk₂ ρ₂ pl μ₂ x2 S2 rl ht2 hm2 P2 => ?_
 have X2 := X1.le x2 S2
 refine (QR (s := { s with heap := h₂, toks := tk₂ }) H X2).andThen ht2 hm2 P2 fun vu h₃ tk₃ ρ₃ pu μ₃ x3 S3 ru ht3 hm3 P3 => ?_
 rw [aF]
 refine wpAny_pure ?_
 have hk := qg h₃ { cls := .type "slice", data := .fields #[vl, vu, .none] }
 have x4 : Le [] ρ₃ h₃ ρ₃ (h₃.push { cls := .type "slice", data := .fields #[vl, vu, .none] }) := Le.of_keeps hk
 have S4 := S3.keeps hk
 exact VW (s := { s with heap := h₃.push { cls := .type "slice", data := .fields #[vl, vu, .none] }, toks := tk₃ }) S4 (((ra.le S1 x2).le S2 x3).le S3 x4) ((rl.le S2 x3).le S3 x4) (ru.le S3 x4) (aU ..) ht3 _ _ hm3 Q E (P3.le (s := { s with heap := h₃, toks := tk₃ }) (tk := tk₃) x4)
theorem Jc {v i : Expr} {pos : Pos} (H : j4 w hT r n) (X : Act w hT A l env σ ρ μ s.heap n) : Sim w hT A (Rv hT) ρ s (eval (.Subscript v i pos) env) (L0 r σ v i μ) := by
 induction i using PC with
 | Slice lo hi st p =>
   induction st with
   | none => exact KX H X
   | some st => exact Sim.none
 | _ => exact BZ H X rfl
end
theorem KV (w : Rk) : bu (KK w) (.ref 187) "__getattribute__" = some (some (.builtin "object.__getattribute__")) := by kernel_rfl
theorem GU (w : Rk) : bu (KK w) (.ref 187) "__getattr__" = some none := by kernel_rfl
theorem yQ (w : Rk) : (vA.all fun p => bu (KK w) (.ref 187) p.1 == some (some (.ref p.2)) && typeIn (KK w) (.ref p.2) == some (.type "function") && keepIn (KK w) (.ref p.2) && (yU w p.2).isSome) = true := by kernel_rfl
theorem LM (w : Rk) : (fns.all fun p => nsIn (KK w) mainGlobals p.1 == some (some (.ref p.2)) && keepIn (KK w) (.ref p.2) && (yU w p.2).isSome) = true := by kernel_rfl
section
variable {w : Rk} {hT : PP} {A : RE} {l : List Env} {ρ ρ' : List PE} {μ μ₁ μ' : q4} {s : Py} {n : Nat} {env : Env} {outer : List Env} {σ σ' : LE} {h h' : PP} {r : Ev}
theorem GF.kin (G : GF w hT) (S : SR w hT ρ μ h) : (KK w).In h := G.1.keeps S.top
theorem XQ {es : List DictEntry} {kvs : List (Str × Pu)} (k : Str) (P : Pairs (PO prog w) es kvs) : (es.find? fun e => e.key.isStr k).map (·.val) = b8 kvs k /\ es.any (·.refKey) = false := by
 refine ⟨?_, ?_⟩
 ·rw [<- P.find k]
  congr 2
  funext e
  show e.key.isStr k = To k e.key
  cases e.key <;> rfl
 ·induction P with
  | nil => rfl
  | @cons e kv es kvs h1 _ _ ih =>
    rw [TS, ih, A1]
    obtain ⟨t, ht⟩ := TO (show To kv.1 e.key = true from h1)
    unfold DictEntry.refKey
    rw [ht]
theorem xL {x : PE} {kvs : List (Str × Pu)} (D : h.DictOf (PO prog w) x kvs) (k : Str) : ∃ o, h.get? x = some o /\ lookIn k o = some (b8 kvs k) := by
 obtain ⟨o, es, ep, ho, hx, hd, _, hp, _⟩ := D
 refine ⟨o, ho, ?_⟩
 obtain ⟨h1, h2⟩ := XQ k hp
 unfold lookIn
 rw [hd]
 simp only
 cases hq : es.toList.find? (fun e => e.key.isStr k) with
 | none => rw [hq] at h1; rw [h2, <- h1]; rfl
 | some e => rw [hq] at h1; rw [<- h1]; rfl
theorem vb {l : Loc} {kvs : List (Str × Pu)} {k : Str} (r : RvD hT ρ h kvs l) (e : (l.all fun kv => !(kv.1 == k)) = true) : b8 kvs k = none := by
 unfold b8
 rw [Option.map_eq_none_iff, List.find?_eq_none]
 intro kv hm
 have hk := r.keys
 have : kv.1 ∈ l.map (·.1) := hk ▸ RS hm
 obtain ⟨q, hq, hqe⟩ := Ri.mp this
 have := PT.mp e q hq
 simp only [decide_eq_true_eq]
 intro hh
 rw [<- hqe] at hh
 rw [hh] at this
 simp at this
theorem SR.instAt (S : SR w hT ρ μ h) {m d : Nat} {a : PE} {l : Loc} (hn : ρ[m]? = some a) (hc : zZ μ m = some d) (hl : qe μ d = some l) :
 ∃ x kvs, ρ[d]? = some x /\ h.get? a = some (Uz 187 x) /\ h.DictOf (PO prog w) x kvs /\ RvD hT ρ h kvs l := by
 obtain ⟨x, hx, ho⟩ := S.cells m a _ hn (vy hc)
 obtain ⟨kvs, hd, hr⟩ := S.dictAt hx hl
 exact ⟨x, kvs, hx, ho, hd, hr⟩
theorem wm {x a : PE} {o : Obj} (ha : h.get? a = some (Uz 187 x)) (ho : h.get? x = some o) : InstAt h a (Uz 187 x) 187 (some o) := ⟨ha, rfl, rfl, ho⟩
theorem yY {m d : Nat} {a f : PE} {name : Str} {pl : Sem Bool} {Q : Pu × List Pu -> Py -> Prop} {E : Pu -> Py -> Prop} (G : GF w hT) (S : SR w hT ρ μ s.heap) (hn : ρ[m]? = some a) (hc : zZ μ m = some d) (hok : qn μ d name = true)
 (hf : vA.lookup name = some f) (h : Q (.ref f, [.ref a]) s) : PQ (MM w) A (getMethod (.ref a) name pl) Q E s := by
 obtain ⟨dl, hdl, hall⟩ := xX hok
 obtain ⟨x, kvs, hx, ha, hd, hr⟩ := S.instAt hn hc hdl
 obtain ⟨o, ho, hlk⟩ := xL hd name
 have hm := PT.mp (yQ w) _ (mem_of_lookup hf)
 simp only [Rl, beq_iff_eq] at hm
 refine method_fn (G.kin S) (wm ha ho) (KV w) (GU w) hm.1.1.1 hm.1.1.2 ?_ h
 show (lookIn name o).map (·.isSome) = some false
 rw [hlk, vb hr hall]
 rfl
set_option tactic.hygienic true in
theorem QW {a : PE} (h : (yU w a).isSome = true) : ∃ c d fd sl, (KK w).lookup a = some ⟨c, d, .func fd, sl⟩ := by
 obtain ⟨fd, e0⟩ := Se.mp h
 unfold yU at e0
 split at e0
 ·rename_i c d fd sl e; exact ⟨c, d, fd, sl, e⟩
 ·exact no e0
theorem qP {M : U9} {f : Pu} {args : List (Bool × Sem Pu)} {Q : Args -> Py -> Prop} {E : Pu -> Py -> Prop} (hp : args.all (!·.1) = true)
 (h : PQ M A (Am args) (fun vs s' => Q ⟨vs, []⟩ s') E s) : PQ M A (Up f true args []) Q E s := by
 induction args using PD with
 | nil =>
   unfold Up
   show PQ M A (Am [] >>= _) Q E s
   refine wpAny_bind (RG h (fun vs s' h' => ?_) fun zz zz x => x)
   refine wpAny_holding ?_
   exact wpAny_bind (wpAny_pure (wpAny_bind (wpAny_pure (wpAny_pure h'))))
 | cons a rest =>
   obtain ⟨b, x⟩ := a
   induction b with
   | false => exact AP h
   | true => cases hp
theorem qI {pos : Pos} {args : List Expr} (h : args.all (!qf ·) = true) : (Tc pos (Sr args env)).all (!·.1) = true := by
 rw [q9 h]
 simp
theorem kH {pos : Pos} {f : PE} {first : List Pu} {args : List (Bool × Sem Pu)} {keywords : List (Option Str × Sem Pu)} {Q : Pu -> Py -> Prop} {E : Pu -> Py -> Prop} (hf : (yU w f).isSome = true)
 (h : PQ (MM w) A (Up (.ref f) true args keywords) (fun x s₁ => (KK w).In s₁.heap /\ PQ (MM w) A (call (.ref f) (first ++ x.pos) x.kw) Q E s₁) E s) :
 PQ (MM w) A (Tj pos (.ref f) first args keywords) Q E s := by
 obtain ⟨c, d, fd, sl, e⟩ := QW hf
 refine callWith_function_kw (o := ⟨c, d, .func fd, sl⟩) (fd := fd) (RG h (fun x s₁ q => ⟨⟨q.1 _ _ e, rfl⟩, q.2⟩) fun zz zz x => x)
theorem v8 {pos : Pos} {f : PE} {first : List Pu} {ps0 : List PV} {args : List Expr} (G : GF w hT) (H : j4 w hT r n) (HC : jR w hT r n) (X : Act w hT A l env σ ρ μ s.heap n) (hf : (yU w f).isSome = true) (hs : args.all (!qf ·) = true)
 (r0 : RvL hT ρ s.heap first ps0) : Sim w hT A (Rv hT) ρ s (Tj pos (.ref f) first (Tc pos (Sr args env)) []) (qa (evL r σ args μ) fun vs => r.call f (ps0 ++ vs) []) := by
 intro ht r' μ' hm Q E P
 refine kH hf (qP (qI hs) ?_)
 rw [q9 hs]
 refine (x8 H args X).andThen ht hm P fun vs h₁ tk₁ ρ₁ ps μ₁ x1 S1 rvs ht1 hm1 P1 => ?_
 exact ⟨G.kin S1, (HC A l ρ₁ μ₁ { s with heap := h₁, toks := tk₁ } f _ _ [] [] S1 (X.sk.le x1) X.rm ((r0.le X.sr x1).append rvs) .nil).sim ht1 _ _ hm1 Q E P1⟩
theorem kY {pos kp : Pos} {f : PE} {first : List Pu} {ps0 : List PV} {args : List Expr} {k : Str} {e : Expr} (G : GF w hT) (H : j4 w hT r n) (HC : jR w hT r n) (X : Act w hT A l env σ ρ μ s.heap n) (hf : (yU w f).isSome = true) (hs : args.all (!qf ·) = true)
 (r0 : RvL hT ρ s.heap first ps0) : Sim w hT A (Rv hT) ρ s (Tj pos (.ref f) first (Tc pos (Sr args env)) (Tv pos (SD [⟨some k, e, kp⟩] env))) (qa (evL r σ args μ) fun vs μ => qa (r.ev σ e μ) fun v => r.call f (ps0 ++ vs) [(k, v)]) := by
 intro ht r' μ' hm Q E P
 refine kH hf ?_
 have main : ∀ (Q' : Args -> Py -> Prop) (E' : Pu -> Py -> Prop), PQ (MM w) A (Am (Tc pos (Sr args env))) (fun vs s₁ => PQ (MM w) A (evalAll ((Tv pos (SD [⟨some k, e, kp⟩] env)).map (·.2))) (fun ks s₂ => Q' ⟨vs, [k].zip ks⟩ s₂) E' s₁) E' s ->
  PQ (MM w) A (Up (.ref f) true (Tc pos (Sr args env)) (Tv pos (SD [⟨some k, e, kp⟩] env))) Q' E' s := by
  intro Q' E' h
  induction args using PD with
  | nil =>
    unfold Up
    show PQ _ _ (Am [] >>= _) Q' E' s
    refine wpAny_bind (RG h (fun vs s' h' => ?_) fun zz zz x => x)
    refine wpAny_bind (wpAny_pure ?_)
    refine wpAny_holding ?_
    rw [if_pos (show (Tv pos (SD [⟨some k, e, kp⟩] env)).all (·.1.isSome) = true from rfl)]
    refine wpAny_bind (RG h' (fun ks s₂ h₂ => ?_) fun zz zz x => x)
    exact wpAny_bind (wpAny_pure (wpAny_pure h₂))
  | cons a rest =>
    have he : Tc pos (Sr (a :: rest) env) = (false, eval a env) :: rest.map fun e => (false, eval e env) := by rw [q9 hs]; rfl
    rw [he] at h ⊢
    exact evalArgs_kw rfl h
 refine main _ _ ?_
 rw [q9 hs]
 refine (x8 H args X).andThen ht hm P fun vs h₁ tk₁ ρ₁ ps μ₁ x1 S1 rvs ht1 hm1 P1 => ?_
 refine kwAll_cons ?_
 refine (H A l env σ ρ₁ μ₁ { s with heap := h₁, toks := tk₁ } e (X.le x1 S1)).andThen ht1 hm1 P1 fun v h₂ tk₂ ρ₂ p μ₂ x2 S2 rv ht2 hm2 P2 => ?_
 refine kwAll_nil ?_
 exact ⟨G.kin S2, (HC A l ρ₂ μ₂ { s with heap := h₂, toks := tk₂ } f _ _ [(k, v)] [(k, p)] S2 ((X.sk.le x1).le x2) X.rm (((r0.le X.sr x1).le S1 x2).append (rvs.le S1 x2)) (.cons rv .nil)).sim ht2 _ _ hm2 Q E P2⟩
theorem yc {M : U9} {o : Expr} {name : Str} {apos pos : Pos} {args : List Expr} {kws : List SE} {Q : Pu -> Py -> Prop} {E : Pu -> Py -> Prop} (hb : qT o = true)
 (h : PQ M A (eval o env) (fun ov s₁ => PQ M A (Tw o name apos pos env ov (args.length + kws.length) (Tc pos (Sr args env)) (Tv pos (SD kws env))) Q E s₁) E s) :
 PQ M A (eval (.Call (.Attribute o name apos) args kws pos) env) Q E s := by
 rw [arm_eval_Call, wJ hb]
 exact wpAny_bind (RG h (fun ov s₁ h₁ => wpAny_bind (wpAny_standAt h₁)) fun zz zz e => e)
theorem qZ {M : U9} {o : Expr} {name : Str} {apos pos : Pos} {ov : Pu} {k : Nat} {args : List (Bool × Sem Pu)} {kws : List (Option Str × Sem Pu)} {Q : Pu -> Py -> Prop} {E : Pu -> Py -> Prop}
 (hform : T5 k args kws = true) (hline : (apos.endLine == pos.line) = true)
 (h : ∀ pl, PQ M A (getMethod ov name pl) (fun fp s₁ => PQ M A (Tj pos fp.1 fp.2 args kws) Q E s₁) E s) : PQ M A (Tw o name apos pos env ov k args kws) Q E s := by
 have hpos : methodCallPos true o env apos pos = pure pos := by unfold methodCallPos; simp [hline]
 unfold Tw
 rw [hform]
 refine wpAny_bind (wpAny_holding (RG (h _) (fun fp s₁ h₁ => ?_) fun zz zz e => e))
 exact wpAny_bind (UV hpos h₁)
theorem yH {args : List Expr} {pos : Pos} (hs : args.all (!qf ·) = true) (hl : args.length < 10) : T5 (args.length + ([] : List SE).length) (Tc pos (Sr args env)) (Tv pos (SD [] env)) = true := by
 have e := qI (env := env) (pos := pos) hs
 unfold T5
 rw [e]
 show (true && true && decide (args.length + 0 + 0 < 30)) = true
 simp; omega
theorem Ea {args : List Expr} {pos kp : Pos} {k : Str} {e : Expr} (hs : args.all (!qf ·) = true) (hl : args.length < 10) : T5 (args.length + [(⟨some k, e, kp⟩ : SE)].length) (Tc pos (Sr args env)) (Tv pos (SD [⟨some k, e, kp⟩] env)) = true := by
 have e' := qI (env := env) (pos := pos) hs
 unfold T5
 rw [e']
 show (true && true && decide (args.length + 1 + 1 < 30)) = true
 simp; omega
theorem yj {M : U9} {name : Str} {id : String} {ov : Pu} {pl : Sem Bool} {Q : Pu × List Pu -> Py -> Prop} {E : Pu -> Py -> Prop} (hm : Qd s ov name id) (h : Q (.builtin id, [ov]) s) : PQ M A (getMethod ov name pl) Q E s := by
 obtain ⟨T, pa, slot, hty, hT, hd⟩ := hm
 exact getMethod_builtin hT pa slot hty hd h
theorem ZT {pos : Pos} {id : String} {ov : Pu} {p : PV} {args : List Expr} {f : List PV -> PM PV} (H : j4 w hT r n) (X : Act w hT A l env σ ρ μ s.heap n) (hs : args.all (!qf ·) = true) (ro : Rv hT ρ s.heap ov p)
 (hf : ∀ ρ₁ μ₁ s₁ vs ps, SR w hT ρ₁ μ₁ s₁.heap -> Le [] ρ s.heap ρ₁ s₁.heap -> Rv hT ρ₁ s₁.heap ov p -> RvL hT ρ₁ s₁.heap vs ps -> Sim w hT A (Rv hT) ρ₁ s₁ (call (.builtin id) (ov :: vs)) (f ps μ₁)) :
 Sim w hT A (Rv hT) ρ s (Tj pos (.builtin id) [ov] (Tc pos (Sr args env)) []) (qa (evL r σ args μ) f) := by
 intro ht r' μ' hm Q E P
 have hany : (Tc pos (Sr args env)).any (·.1) = false := by rw [q9 hs]; simp
 refine callWith_builtin hany (qP (qI hs) ?_)
 rw [q9 hs]
 refine (x8 H args X).andThen ht hm P fun vs h₁ tk₁ ρ₁ ps μ₁ x1 S1 rvs ht1 hm1 P1 => ?_
 exact hf ρ₁ μ₁ { s with heap := h₁, toks := tk₁ } vs ps S1 x1 (ro.le X.sr x1) rvs ht1 _ _ hm1 Q E P1
theorem CX (w : Rk) : (vA.all fun p => specialIn (KK w) (.ref p.2) "__get__" == some (some (.builtin "function.__get__")) && takesIn (KK w) (.ref p.2) == some false && !(copiedNames.contains p.1)) = true := by kernel_rfl
theorem B4 (w : Rk) : ((clsIn (KK w) 187).any fun cd => cd.hasDict) = true := by kernel_rfl
theorem Jf {x f : PE} {name : Str} {o : Obj} (hf : vA.lookup name = some f) (hl : lookIn name o = some none) : findObj (KK w) 187 (some o) name = some (.bind (.builtin "function.__get__") (.ref f)) := by
 have hm := PT.mp (yQ w) _ (mem_of_lookup hf)
 simp only [Rl, beq_iff_eq] at hm
 have hs := PT.mp (CX w) _ (mem_of_lookup hf)
 simp only [Rl, beq_iff_eq, S8] at hs
 obtain ⟨cd, hc, hd⟩ := xX (B4 w)
 unfold findObj
 rw [hc, PL, hm.1.1.1, PL]
 simp only [hs.1.1, PL, hs.1.2]
 have ho : W.ownOf cd (some o) name = some none := by unfold W.ownOf; rw [if_pos hd]; exact hl
 simp only [ho, PL, hs.2, c6, R7, if_false]
theorem Jj {m d : Nat} {a f : PE} {name : Str} {expr : Bool} {Q : Pu -> Py -> Prop} {E : Pu -> Py -> Prop} (G : GF w hT) (S : SR w hT ρ μ s.heap) (hn : ρ[m]? = some a) (hc : zZ μ m = some d) (hok : qn μ d name = true)
 (hf : vA.lookup name = some f) (h : Q (.ref s.heap.objs.size) { s with heap := s.heap.push (methodObj (.ref f) (.ref a)), toks := s.toks + 1 }) : PQ (MM w) A (getAttr (.ref a) name expr) Q E s := by
 obtain ⟨dl, hdl, hall⟩ := xX hok
 obtain ⟨x, kvs, hx, ha, hd, hr⟩ := S.instAt hn hc hdl
 obtain ⟨o, ho, hlk⟩ := xL hd name
 rw [vb hr hall] at hlk
 have hm := PT.mp (yQ w) _ (mem_of_lookup hf)
 simp only [Rl, beq_iff_eq] at hm
 refine get_bind (G.kin S) (wm ha ho) (KV w) (Jf (x := x) hf hlk) (GU w) (Ak ?_)
 exact fn_get (s := { s with toks := s.toks + 1 }) (G.kin S) hm.1.1.2 (by show PQ _ _ (handedOut _) _ _ _; rw [handedOut_of rfl]; exact wpAny_pure h)
theorem JB {p : PE} {f self : Pu} {pos : List Pu} {kw : List (Str × Pu)} {sl : Array (Option Pu)} {R : Result -> Py -> Prop} (ho : s.heap.get? p = some { methodObj f self with slots := sl })
 (h : TC (MM w) A (.call f ⟨self :: pos, kw⟩) R s) : TC (MM w) A (.call (.ref p) ⟨pos, kw⟩) R s := by
 obtain ⟨hh, g, dr, t, os⟩ := s
 refine Av ?_
 show PQ _ _ (callAny (.ref p) _) _ _ _
 dsimp only at ho
 refine nd_load ho ?_
 induction f <;> exact wpAny_pure ⟨rfl, h⟩
theorem Qq {M : U9} {f : Pu} {args : List (Bool × Sem Pu)} {x : Sem Pu} {Q : Args -> Py -> Prop} {E : Pu -> Py -> Prop} (hp : args.all (!·.1) = true)
 (h : PQ M A (Am args) (fun vs s₁ => PQ M A (AU f [(none, x)]) (fun d s₂ => PQ M A (cc f d) (fun kw s₃ => Q ⟨vs, kw⟩ s₃) E s₂) E s₁) E s) : PQ M A (Up f true args [(none, x)]) Q E s := by
 have hall : ([(none, x)] : List (Option Str × Sem Pu)).all (·.1.isSome) = false := rfl
 induction args using PD with
 | nil =>
   unfold Up
   show PQ M A (Am [] >>= _) Q E s
   refine wpAny_bind (RG h (fun vs s₁ h₁ => ?_) fun zz zz x => x)
   refine wpAny_bind (wpAny_pure ?_)
   refine wpAny_holding ?_
   simp only [hall, R7, if_false]
   refine wpAny_bind (RG h₁ (fun d s₂ h₂ => ?_) fun zz zz x => x)
   exact wpAny_bind (wpAny_pure (wpAny_bind (wpAny_holding (RG h₂ (fun kw s₃ h₃ => wpAny_pure h₃) fun zz zz x => x))))
 | cons a rest =>
   obtain ⟨b, y⟩ := a
   induction b with
   | false =>
     unfold Up
     show PQ M A (Am ((false, y) :: rest) >>= _) Q E s
     refine wpAny_bind (RG h (fun vs s₁ h₁ => ?_) fun zz zz x => x)
     refine wpAny_bind (wpAny_pure ?_)
     refine wpAny_holding ?_
     simp only [hall, R7, if_false]
     refine wpAny_bind (RG h₁ (fun d s₂ h₂ => ?_) fun zz zz x => x)
     exact wpAny_bind (wpAny_pure (wpAny_bind (wpAny_holding (RG h₂ (fun kw s₃ h₃ => wpAny_pure h₃) fun zz zz x => x))))
   | true => cases hp
theorem yR {d : PE} {k : Str} {v : Pu} (D : h.DictOf (PO prog w) d [(k, v)]) : ∃ t c, h.get? d = some { cls := .type "dict", data := .dict #[⟨hashStr w k, .str k t, v⟩] c } := by
 obtain ⟨o, es, ep, ho, hx, hd, hk, hp, _⟩ := D
 obtain ⟨c, dd, dat, sl⟩ := o
 obtain ⟨h1, h2, h3⟩ := hx
 simp only at h1 h2 h3 hd
 subst h1 h2 h3 hd
 induction hq : es.toList using PD with
 | nil => rw [hq] at hp; cases hp
 | cons e r =>
   rw [hq] at hp
   cases hp with | cons a b c' =>
   cases c'
   obtain ⟨t, ht⟩ := TO (show To k e.key = true from a)
   obtain ⟨k', hk1, hk2⟩ := hk e (Array.mem_def.mpr (by rw [hq]; exact .head _))
   have : k' = k := Pu.isStrOf_inj _ _ _ hk1 a
   subst this
   refine ⟨t, ep, ?_⟩
   obtain ⟨hh, kk, vv⟩ := e
   simp only at ht b hk2
   subst ht b hk2
   have : es = #[⟨hashStr w k', .str k' t, vv⟩] := by
    apply UE
    rw [hq]; rfl
   rw [ho, this]
theorem yN {d : PE} (D : h.DictOf (PO prog w) d []) : ∃ c, h.get? d = some { cls := .type "dict", data := .dict #[] c } := by
 obtain ⟨o, es, ep, ho, hx, hd, hk, hp, _⟩ := D
 obtain ⟨c, dd, dat, sl⟩ := o
 obtain ⟨h1, h2, h3⟩ := hx
 simp only at h1 h2 h3 hd
 subst h1 h2 h3 hd
 induction hq : es.toList using PD with
 | nil =>
   refine ⟨ep, ?_⟩
   have : es = #[] := by apply UE; rw [hq]
   rw [ho, this]
 | cons e r => rw [hq] at hp; cases hp
theorem W5 {d m : PE} {k : Str} {u : Pu} {Q : Unit -> Py -> Prop} {E : Pu -> Py -> Prop} (hdm : m ≠ d) (hms : (m == T1) = false) (D : s.heap.DictOf (PO prog w) d []) (D' : s.heap.DictOf (PO prog w) m [(k, u)])
 (h : ∀ h', h'.DictOf (PO prog w) d [(k, u)] -> RK d s.heap h' -> Q () { s with heap := h' }) : PQ (MM w) A (mergeMapping d (.ref m) true) Q E s := by
 obtain ⟨t, c, ho⟩ := yR D'
 obtain ⟨cd, hod⟩ := yN D
 unfold mergeMapping
 have hT : s.TypeIs (.ref m) "dict" := ⟨_, ho, rfl⟩
 refine wpAny_bind (wpAny_isInstance (T := "dict") (b := true) hT isSubtype_dict_dict ?_)
 simp only [if_true]
 refine wpAny_bind (TX (T := "dict") hT F.slot_dict_iter.lookup ?_)
 simp only [beq_self_eq_true, bv, hms, R7, if_false]
 refine wpAny_bind (Tr hod rfl ?_)
 rw [if_pos (by rfl)]
 refine wpAny_bind (Tr ho rfl ?_)
 simp only [aW, SJ, T6, bv]
 refine wpAny_bind (Tr ho rfl ?_)
 refine wpAny_bind (wpAny_dictEpoch ho rfl ?_)
 show PQ _ _ (ba [0] _ _ >>= _) _ _ _
 rw [SJ]
 have hkey : (PO prog w).is k (.str k t) = true := j8 k t
 have hkeys : KeysOf (PO prog w) #[] := fun e he => by simp at he
 refine wpAny_bind (wpAny_bind (wpAny_bind (Tr ho rfl ?_)))
 show PQ _ _ (do
  holding [cn k t, u] (do
   let r <- dictFind d (.str k t) (hashStr w k)
   if r.isSome = true then (do
    rule "dict.merge.duplicate-key"
    let x <- newExc (ce "KeyError") [cn k t]
    raiseNew x
    dictPut d (hashStr w k) (.str k t) u)
   else dictPut d (hashStr w k) (.str k t) u)
  let x <- dictEpoch m
  if (x != c) = true then (do
   unsupported "dict.changed-during-merge"
   pure (SI Ui))
  else pure (SI Ui)) _ _ _
 refine wpAny_bind (wpAny_holding (wpAny_bind (wpAny_dictFind_of (knd := PO prog w) (k := k) hkey hod rfl hkeys ?_)))
 have hfi : (Array.findIdx? (fun e : DictEntry => (PO prog w).is k e.key) #[]) = none := by simp
 rw [hfi, if_neg (by simp)]
 unfold dictPut
 refine wpAny_bind (wpAny_dictFind_of (knd := PO prog w) (k := k) hkey hod rfl hkeys ?_)
 rw [hfi]
 refine wpAny_updateDictKeys hod rfl ?_ (by show 0 <= Pr; exact Rj _)
 have hs' : RK d s.heap (s.heap.update d (Obj.mapDictKeys (·.push ⟨hashStr w k, .str k t, u⟩))) := TI ..
 refine wpAny_bind (wpAny_dictEpoch ((hs'.2 m hdm).trans ho) rfl ?_)
 rw [if_neg (by simp)]
 refine wpAny_pure ?_
 refine wpAny_pure (wpAny_pure ?_)
 refine h _ (fe (t := t) (c := cd + 1) ?_) hs'
 exact SP _ hod rfl
theorem ZI {f : Pu} {x : Sem Pu} {Q : PE -> Py -> Prop} {E : Pu -> Py -> Prop} (h : PQ (MM w) A x (fun v s₁ => ∃ m k u, v = .ref m /\ m ≠ s.heap.objs.size /\ (m == T1) = false /\ s₁.heap.DictOf (PO prog w) s.heap.objs.size [] /\ s₁.heap.DictOf (PO prog w) m [(k, u)] /\
 ∀ h', h'.DictOf (PO prog w) s.heap.objs.size [(k, u)] -> RK s.heap.objs.size s₁.heap h' -> Q s.heap.objs.size { s₁ with heap := h' })
 E { s with heap := s.heap.push { cls := .type "dict", data := .dict #[] } }) : PQ (MM w) A (AU f [(none, x)]) Q E s := by
 unfold AU
 refine wpAny_bind (AT ?_)
 refine wpAny_bind (wpAny_holding ?_)
 show PQ _ _ (ba [((none : Option Str), x)] ([] : List (Str × Sem Pu)) _ >>= _) _ _ _
 rw [SJ]
 refine wpAny_bind (wpAny_bind (wpAny_bind (wpAny_pure (wpAny_bind (RG h (fun v s₁ h₁ => ?_) fun zz zz e => e)))))
 obtain ⟨m, k, u, rfl, h1, h2, D, D', hq⟩ := h₁
 refine wpAny_bind (aG (wpAny_holding (wpAny_tryCatch (aG (W5 h1 h2 D D' fun h' d' sb => ?_)))))
 refine wpAny_pure ?_
 show PQ _ _ (ba [] _ _) _ _ _
 rw [T6]
 exact wpAny_pure (wpAny_pure (wpAny_pure (hq h' d' sb)))
theorem gD {f : Pu} {d : PE} {k : Str} {u : Pu} {Q : List (Str × Pu) -> Py -> Prop} {E : Pu -> Py -> Prop} (D : s.heap.DictOf (PO prog w) d [(k, u)]) (h : Q [(k, u)] s) : PQ (MM w) A (cc f d) Q E s := by
 obtain ⟨t, c, ho⟩ := yR D
 unfold cc
 refine wpAny_bind (Tr ho rfl ?_)
 rw [aW, SJ]
 refine wpAny_bind (wpAny_bind (wpAny_pure ?_))
 show PQ _ _ (ba [] _ _) _ _ _
 rw [T6]
 exact wpAny_pure (wpAny_pure h)
theorem Qa {pos : Pos} {q f : PE} {self : Pu} {args : List (Bool × Sem Pu)} {x : Sem Pu} {Q : Pu -> Py -> Prop} {E : Pu -> Py -> Prop} (hf : (yU w f).isSome = true)
 (h : PQ (MM w) A (Up (.ref q) true args [(none, x)]) (fun y s₁ => (KK w).In s₁.heap /\ (∃ sl, s₁.heap.get? q = some { methodObj (.ref f) self with slots := sl }) /\
   TC (MM w) A (.call (.ref f) ⟨self :: y.pos, y.kw⟩) (fun r s' => match r with | .ok (.ret v) => Q v s' | .ok _ => False | .error e => E e s') s₁) E s) :
 PQ (MM w) A (Tj pos (.ref q) [] args [(none, x)]) Q E s := by
 obtain ⟨c, d, fd, sl0, e⟩ := QW hf
 unfold Tj
 refine wpAny_bind (wpAny_holding (RG h (fun y s₁ h₁ => wpAny_bind (wpAny_standAt ?_)) fun zz zz x => x))
 obtain ⟨hk, ⟨sl, hq⟩, hc⟩ := h₁
 have hany : (args.any (·.1) || ([(none, x)] : List (Option Str × Sem Pu)).any (·.1.isNone)) = true := by simp
 simp only [hany]
 have hkeep : PQ (MM w) A (keeperOf (.ref q)) (fun k s' => k = .boundFrame /\ s' = s₁) E s₁ := by
  unfold keeperOf
  refine wpAny_bind (c8 hq ?_)
  show PQ _ _ (if (ce "method" != ce "method") = true then _ else _) _ _ _
  rw [if_neg (by simp)]
  show PQ _ _ (load f >>= _) _ _ _
  exact wpAny_bind (c8 (hk _ _ e) (wpAny_pure ⟨rfl, rfl⟩))
 refine wpAny_bind (RG hkeep (fun k s' z => ?_) fun zz zz x => x)
 obtain ⟨rfl, rfl⟩ := z
 dsimp only
 refine wpAny_bind (wpAny_operating (Ak (JB hq (codeAny_mono hc fun r s' z => ?_))))
 rcases r with e' | (v | _ | _ | _) <;> first | exact z | exact z.elim | skip
 exact wpAny_bind (wpAny_holding (wpAny_point (wpAny_pure z)))
theorem kU {o : Expr} {name : Str} {apos pos : Pos} {ov : Pu} {k : Nat} {args : List (Bool × Sem Pu)} {x : Sem Pu} {Q : Pu -> Py -> Prop} {E : Pu -> Py -> Prop}
 (h : PQ (MM w) A (getAttr ov name true) (fun f s₁ => PQ (MM w) A (Tj pos f [] args [(none, x)]) Q E s₁) E s) : PQ (MM w) A (Tw o name apos pos env ov k args [(none, x)]) Q E s := by
 have hform : T5 k args [(none, x)] = false := by unfold T5; simp
 unfold Tw
 rw [hform]
 refine wpAny_bind (wpAny_holding ?_)
 show PQ _ _ (getAttr ov name true >>= _) _ _ _
 refine wpAny_bind (RG h (fun f s₁ h₁ => wpAny_pure ?_) fun zz zz e => e)
 exact wpAny_bind (wpAny_pure h₁)
theorem Bm {G : Prop} {f d0 : PE} {n0 : Nat} {vs : List PV} {dv : PV} {v : Pu} {q : Except Exn PV × q4} (hm : gu r f vs n0 dv μ = some q) (S : SR w hT ρ μ h) (rv : Rv hT ρ h v dv) (hnd : ρ[n0]? = some d0)
 (k : ∀ b x uv u, v = .ref b -> b ≠ d0 -> (b == T1) = false -> h.DictOf (PO prog w) d0 [] -> h.DictOf (PO prog w) b [(x, uv)] -> (∀ h', h'.DictOf (PO prog w) d0 [(x, uv)] -> RK d0 h h' -> SR w hT ρ (qj μ n0 (.dict [(x, u)])) h' /\ Rv hT ρ h' uv u /\ Le [] ρ h ρ h') ->
   r.call f vs [(x, u)] (qj μ n0 (.dict [(x, u)])) = some q -> G) : G := by
 obtain ⟨m', hm', hm⟩ := bnd hm
 obtain ⟨hne, hm⟩ := ifF hm
 obtain ⟨l1, hd1, hm⟩ := bnd hm
 obtain ⟨l2, hd2, hm⟩ := bnd hm
 obtain ⟨hl1, hm⟩ := ifT hm
 obtain ⟨kv, hkv, hm⟩ := bnd hm
 obtain ⟨b, e, hn2⟩ := rv.lI hm'
 have e1 := Rf.mp hl1
 have e2 := jM hkv
 subst e1 e2
 obtain ⟨kv1, D1, r1⟩ := S.dictAt hnd hd1
 obtain ⟨kv2, D2, r2⟩ := S.dictAt hn2 hd2
 cases r1
 cases r2 with | @cons x uv u _ _ ru rn =>
 cases rn
 have hdρ : d0 ∈ ρ := Rr hnd
 refine k b x uv u e (fun q => hne (vH S.nodup (q ▸ hn2) hnd)) (beq_eq_false_iff_ne.mpr (RZ (S.low.2 b (Rr hn2)))) D1 D2 (fun h' D' sb => ?_) hm
 have ru3 := ru.mono (ρ' := ρ) ⟨[], (PS _).symm⟩ (S.kvSet hdρ sb)
 exact ⟨S.set hnd sb ⟨_, D', .cons ru3 .nil⟩, ru3, Le.set hdρ sb (let ⟨_, _, _, hob, _⟩ := D'; ⟨_, hob⟩)⟩
theorem GA {o : Expr} {name : Str} {apos pos kp : Pos} {m d : Nat} {a f : PE} {args : List Expr} {e : Expr} (G : GF w hT) (H : j4 w hT r n) (HC : jR w hT r n) (X : Act w hT A l env σ ρ μ s.heap n) (hs : args.all (!qf ·) = true)
 (hn : ρ[m]? = some a) (hc : zZ μ m = some d) (hok : qn μ d name = true) (hf : vA.lookup name = some f) :
 Sim w hT A (Rv hT) ρ s (Tw o name apos pos env (.ref a) (args.length + 1) (Tc pos (Sr args env)) (Tv pos (SD [⟨none, e, kp⟩] env))) (qa (evL r σ args μ) fun vs μ => qa (r.ev σ e (μ ++ [.dict []])) fun dv => gu r f (.loc m :: vs) μ.length dv) := by
 intro ht r' μ' hm Q E P
 have hm0 := PT.mp (yQ w) _ (mem_of_lookup hf)
 simp only [Rl, beq_iff_eq] at hm0
 have hfd := hm0.2
 refine kU (x := do let v <- eval e env; standAt pos; pure v) ?_
 refine Jj G X.sr hn hc hok hf ?_
 have hk0 := qg s.heap (methodObj (.ref f) (.ref a))
 have x0 : Le [] ρ s.heap ρ (s.heap.push (methodObj (.ref f) (.ref a))) := Le.of_keeps hk0
 have S0 := X.sr.keeps hk0
 have X0 := X.le x0 S0
 have hq0 : (s.heap.push (methodObj (.ref f) (.ref a))).get? s.heap.objs.size = some (methodObj (.ref f) (.ref a)) := Rg _ rfl
 have hqρ : s.heap.objs.size ∉ ρ := fun q => absurd (X.sr.lt q) (Sq _)
 refine Qa (self := .ref a) hfd (Qq (qI hs) ?_)
 rw [q9 hs]
 refine (x8 (s := { s with heap := s.heap.push (methodObj (.ref f) (.ref a)), toks := s.toks + 1 }) H args X0).andThen (by show 1 <= s.toks + 1; lia) hm (P.le (tk := s.toks + 1) x0) fun vs h₁ tk₁ ρ₁ ps μ₁ x1 S1 rvs ht1 hm1 P1 => ?_
 have X1 := X0.le x1 S1
 obtain ⟨sl1, hq1⟩ := x1.kp _ _ hq0 hqρ (by simp)
 have hqρ1 := x1.out hq0 hqρ
 refine ZI ?_
 have S1c : SR w hT (ρ₁ ++ [h₁.objs.size]) (μ₁ ++ [.dict []]) (h₁.push SH) := S1.cell ⟨[], yk (c := 0) (Rg _ rfl), .nil⟩
 have x1c : Le [] ρ₁ h₁ (ρ₁ ++ [h₁.objs.size]) (h₁.push SH) := Le.cell _
 have X1c := X1.le x1c S1c
 have hq1c : (h₁.push SH).get? s.heap.objs.size = _ := qg _ _ _ _ hq1
 have hqρ1c := x1c.out hq1 hqρ1
 show PQ (MM w) A (do let v <- eval e env; standAt pos; pure v) _ _ _
 refine wpAny_bind ((H A l env σ _ _ { s with heap := h₁.push SH, toks := tk₁ } e X1c).andThen ht1 hm1 (P1.le (tk := tk₁) x1c) fun v h₂ tk₂ ρ₂ p μ₂ x2 S2 rv ht2 hm2 P2 => wpAny_bind (wpAny_standAt (wpAny_pure ?_)))
 exact Bm hm2 S2 rv (jn x2.pre (jD S1)) fun b x uv u e hbd hs D1 D2 hh hm3 => ⟨b, x, uv, e, hbd, hs, D1, D2, fun h' D' sb => gD D' (by
  have q := hh h' D' sb
  have hqd : s.heap.objs.size ≠ h₁.objs.size := fun q => x2.out hq1c hqρ1c (q ▸ Rr (jn x2.pre (jD S1)))
  obtain ⟨sl2, hq2⟩ := x2.kp _ _ hq1c hqρ1c (fun h => nomatch h)
  exact ⟨G.kin q.1, ⟨_, (sb.2 _ hqd).trans hq2⟩, HC A l ρ₂ _ { s with heap := h', toks := tk₂ } f (.ref a :: vs) (.loc m :: ps) [(x, uv)] [(x, u)] q.1 ((X1c.sk.le x2).le q.2.2) X.rm (.cons (.loc (jn x2.pre (jn x1c.pre (jn x1.pre hn)))) (((rvs.le S1 x1c).le S1c x2).le S2 q.2.2)) (.cons q.2.1 .nil) ht2 _ _ hm3 Q E (P2.le (tk := tk₂) q.2.2)⟩)⟩
theorem Wv {o : Expr} {name : Str} {apos pos : Pos} {args : List Expr} {p : PV} {v : Pu} {id : String} (H : j4 w hT r n) (X : Act w hT A l env σ ρ μ s.heap n) (g2 : (apos.endLine == pos.line) = true) (g3 : args.all (!qf ·) = true) (g4 : args.length < 10) (ra : Rv hT ρ s.heap v p) (hk : Qd s v name id)
 (hf : ∀ ρ₁ μ₁ s₁ vs ps, SR w hT ρ₁ μ₁ s₁.heap -> Le [] ρ s.heap ρ₁ s₁.heap -> Rv hT ρ₁ s₁.heap v p -> RvL hT ρ₁ s₁.heap vs ps -> Sim w hT A (Rv hT) ρ₁ s₁ (call (.builtin id) (v :: vs)) (j0 p name ps μ₁)) :
 Sim w hT A (Rv hT) ρ s (Tw o name apos pos env v (args.length + ([] : List SE).length) (Tc pos (Sr args env)) (Tv pos (SD [] env))) (qa (evL r σ args μ) fun vs => j0 p name vs) :=
 fun ht r' μ' hm Q E P => qZ (yH g3 g4) g2 fun zz => yj hk (ZT H X g3 ra hf ht _ _ hm Q E P)
theorem Ge {o : Expr} {name : Str} {apos pos : Pos} {args : List Expr} {p : PV} {v : Pu} (H : j4 w hT r n) (X : Act w hT A l env σ ρ μ s.heap n) (g2 : (apos.endLine == pos.line) = true) (g3 : args.all (!qf ·) = true) (g4 : args.length < 10) (ra : Rv hT ρ s.heap v p) (hk : (Jd p name).isSome = true) :
 Sim w hT A (Rv hT) ρ s (Tw o name apos pos env v (args.length + ([] : List SE).length) (Tc pos (Sr args env)) (Tv pos (SD [] env))) (V8 r σ p name args μ) := by
 obtain ⟨id, hid⟩ := Se.mp hk
 unfold Jd at hid
 induction hp : qx p with
 | some x =>
   rw [hp] at hid
   obtain ⟨t, e, hx⟩ := ra.sI hp
   have ep := vM hp
   subst e ep
   have gen := Wv (o := o) H X g2 g3 g4 ra (wz hid) (fun ρ₂ μ₂ s₂ vs ps S2 x2 rv2 rvs => Qj hx S2 rvs hid)
   show Sim w hT A (Rv hT) ρ s _ (match jp args with
    | some cs => if cs.isEmpty then j0 (.str x) name [] μ else jW x name cs μ
    | none => qa (evL r σ args μ) fun vs => j0 (.str x) name vs)
   induction hcs : jp args with
   | none => exact gen
   | some cs =>
     induction cs using PD with
     | nil => cases vr hcs; exact gen
     | cons c cs => exact fun ht r' μ' hm Q E P => qZ (yH g3 g4) g2 fun zz => yj (wz hid) (Yf hx X.sr hcs hid ht _ _ hm Q E P)
 | none =>
   rw [hp] at hid
   obtain ⟨m, hm, hid⟩ := bnd hid
   obtain ⟨a, e, hn⟩ := ra.lI hm
   have ep := jJ hm
   subst e ep
   intro ht r' μ' hmm Q E P
   obtain ⟨ll, hl, hmm⟩ := bnd (o := q5 μ m) hmm
   obtain ⟨_, vs, hpl, _⟩ := X.sr.listAt hn hl
   exact Wv H X g2 g3 g4 ra (w5 hpl hid) (fun ρ₂ μ₂ s₂ vs ps S2 x2 rv2 rvs => gM (jn x2.pre hn) S2 rvs hid) ht _ _ hmm Q E P
theorem Fe {o : Expr} {name : Str} {apos pos : Pos} {args : List Expr} {kws : List SE} (G : GF w hT) (H : j4 w hT r n) (HC : jR w hT r n) (X : Act w hT A l env σ ρ μ s.heap n) :
 Sim w hT A (Rv hT) ρ s (eval (.Call (.Attribute o name apos) args kws pos) env) (Jb r σ o name apos pos args kws μ) := by
 intro ht r' μ' hm Q E P
 refine iT hm fun hg hm => ?_
 have g4 := an hg
 have g3 := an g4.1
 have g2 := an g3.1
 refine yc g2.1 ?_
 refine (H A l env σ ρ μ s o X).andThen ht hm P fun a h₁ tk₁ ρ₁ p μ₁ x1 S1 ra ht1 hm1 P1 => ?_
 have X1 := X.le x1 S1
 induction hi : qw μ₁ p with
 | none =>
   rw [hi] at hm1
   refine iT hm1 fun hk hm2 => ?_
   clear hm1
   have e := Rf.mp (an hk).1
   subst e
   exact Ge (s := { s with heap := h₁, toks := tk₁ }) H X1 g2.2 g3.2 (of_decide_eq_true g4.2) ra (an hk).2 ht1 _ _ hm2 Q E P1
 | some d =>
   rw [hi] at hm1
   obtain ⟨m, hl, hc⟩ := bnd hi
   obtain ⟨b, e, hn⟩ := ra.lI hl
   have ep := jJ hl
   subst e ep
   refine iT hm1 fun hok hm1 => bK hm1 fun f hf hm1 => ?_
   have hm0 := (an (PT.mp (yQ w) _ (mem_of_lookup hf))).2
   have g := of_decide_eq_true g4.2
   induction kws using PD with
   | nil => exact qZ (yH g3.2 g) g2.2 fun pl => yY (s := { s with heap := h₁, toks := tk₁ }) G S1 hn hc hok hf (v8 (s := { s with heap := h₁, toks := tk₁ }) (ps0 := [.loc m]) G H HC X1 hm0 g3.2 (.cons (.loc hn) .nil) ht1 _ _ hm1 Q E P1)
   | cons kw kws =>
     refine iB hm1 fun hks hm1 => ?_
     induction kws using PD with
     | cons _ _ => exact noB hks.symm
     | nil =>
       obtain ⟨arg, e, kp⟩ := kw
       induction arg with
       | some k => exact qZ (Ea g3.2 g) g2.2 fun pl => yY (s := { s with heap := h₁, toks := tk₁ }) G S1 hn hc hok hf (kY (s := { s with heap := h₁, toks := tk₁ }) (ps0 := [.loc m]) G H HC X1 hm0 g3.2 (.cons (.loc hn) .nil) ht1 _ _ hm1 Q E P1)
       | none => exact GA (s := { s with heap := h₁, toks := tk₁ }) G H HC X1 g3.2 hn hc hok hf ht1 _ _ hm1 Q E P1
theorem Zt {out x y : Str} (h : VI out x = some y) : y = out ++ x /\ y.length <= Pr := by
 obtain ⟨h1, h2⟩ := ifT h
 have h2 := qk h2
 subst h2
 exact ⟨rfl, by rw [strLen_append]; exact h1⟩
theorem BH (H : j4 w hT r n) (es : List Expr) : ∀ (acc : Str) (ρ : List PE) (μ : q4) (s : Py), Act w hT A l env σ ρ μ s.heap n -> 1 <= s.toks -> acc.length <= Pr -> ∀ r' μ', zR r σ acc es μ = some (r', μ') -> ∀ (Q : Pu -> Py -> Prop) (E : Pu -> Py -> Prop), xH w hT (Rv hT) ρ s r' μ' Q E ->
 Joins (MM w) A E (evalEach es env) acc (fun out s₁ => out.length <= Pr /\ Q (.str out s₁.toks) { s₁ with toks := s₁.toks + 1 }) s := by
 induction es with
 | nil =>
   intro acc ρ μ s X ht ha r' μ' hm Q E P
   have hm := wj (show yx acc μ = _ from hm)
   exact ⟨hm.1, P.now (tk := s.toks + 1) (b := .str acc) (μ := μ) (show pret (PV.str acc) μ = _ from hm.2) X.sr (.str _ _ hm.1) (Rb (Rj _))⟩
 | cons e es ih =>
   intro acc ρ μ s X ht ha r' μ' hm Q E P
   rw [zR.eq_2] at hm
   induction hc : QX e with
   | some x =>
     rw [hc] at hm
     obtain ⟨k, p, e1⟩ := QS hc
     subst e1
     obtain ⟨y, hy, hm1⟩ := bnd hm
     obtain ⟨e2, hl⟩ := Zt hy
     subst e2
     show PQ (MM w) A (eval (.Constant (.str x) k p) env) _ E s
     exact Sj ⟨x, _, rfl, hl, ih (acc ++ x) ρ μ { s with toks := s.toks + 1 } X (Rb (Rj _)) hl r' μ' hm1 Q E (P.le (tk := s.toks + 1) (Le.refl _ _ _))⟩
   | none =>
     rw [hc] at hm
     obtain ⟨v, hv, hm1⟩ := bnd hm
     obtain ⟨p, e1⟩ := VZ hv
     clear hm hc hv
     subst e1
     show PQ (MM w) A (eval (.FormattedValue v 115 none p) env) _ E s
     refine wpAny_FormattedValue_s ?_
     refine (H A l env σ ρ μ s v X).andThen ht hm1 P fun a h₁ tk₁ ρ₁ q μ₁ x1 S1 ra ht1 hm1 P1 => ?_
     obtain ⟨x, hx, hm2⟩ := bnd hm1
     obtain ⟨y, hy, hm3⟩ := bnd hm2
     obtain ⟨e2, hl⟩ := Zt hy
     obtain ⟨t, e3, hxl⟩ := ra.sI hx
     clear hm1 hm2
     subst e2 e3
     have fin : ∀ t' tk, 1 <= tk -> ∃ y u, cn x t' = .str y u /\ (acc ++ y).length <= Pr /\ Joins (MM w) A E (evalEach es env) (acc ++ y) (fun out s₁ => out.length <= Pr /\ Q (.str out s₁.toks) { s₁ with toks := s₁.toks + 1 }) { s with heap := h₁, toks := tk } := fun t' tk htk =>
      ⟨x, t', rfl, hl, ih (acc ++ x) ρ₁ μ₁ { s with heap := h₁, toks := tk } (X.le x1 S1) htk hl r' μ' hm3 Q E (P1.le (tk := tk) (Le.refl _ _ _))⟩
     show PQ (MM w) A (habitSame _ (.str x t)) _ E _
     have one : ∀ t' tk, 1 <= tk -> PQ (MM w) A (formatField (.str x t') PF) (fun v s₁ => ∃ y u, v = .str y u /\ (acc ++ y).length <= Pr /\ Joins (MM w) A E (evalEach es env) (acc ++ y) (fun out s₁ => out.length <= Pr /\ Q (.str out s₁.toks) { s₁ with toks := s₁.toks + 1 }) s₁) E { s with heap := h₁, toks := tk } := fun t' tk htk =>
      wpAny_formatField_str (s := { s with heap := h₁, toks := tk }) (fin t' tk htk) (fin tk (tk + 1) (Ru htk)) hxl
     exact wpAny_habitSame_str (s := { s with heap := h₁, toks := tk₁ }) (one t tk₁ ht1) (one tk₁ (tk₁ + 1) (Ru ht1)) hxl
theorem KD {es : List Expr} {pos : Pos} (H : j4 w hT r n) (X : Act w hT A l env σ ρ μ s.heap n) (h2 : 2 <= es.length) : Sim w hT A (Rv hT) ρ s (eval (.JoinedStr es pos) env) (zR r σ PF es μ) := by
 intro ht r' μ' hm Q E P
 induction es using PD with
 | nil => exact absurd h2 (by decide)
 | cons a es => induction es using PD with
   | nil => exact absurd h2 (show ¬ 2 <= 1 by decide)
   | cons b es => exact wpAny_JoinedStr (BH H (a :: b :: es) PF ρ μ s X ht (Rj _) r' μ' hm Q E P)
end
section
open PySem.Builtin
set_option maxHeartbeats 4000000 in
theorem Dy {x y : Str} {tx ty t : Tok} {b : PE} (hx : x.length <= 1000000) (hy : y.length <= 1000000) :
 Meets («str.__mod__» ⟨[.str ⟨#[37, 115, 58, 32, 37, 115]⟩ t, .ref b], []⟩) (fun zz R s => IsTup s.heap b #[.str x tx, .str y ty] /\ ∀ t' k, R (.ok (.ret (.str ((x ++ ⟨#[58, 32]⟩) ++ y) t'))) { s with toks := k }) := by
 kpt_run
section
variable {w : Rk} {hT : PP} {A : RE} {l : List Env} {ρ ρ' : List PE} {μ μ₁ μ' : q4} {s : Py} {n : Nat} {env : Env} {outer : List Env} {σ σ' : LE} {h h' : PP} {r : Ev}
theorem Ph {h : PP} {vs : List Pu} {p q : PV} {x y : Str} (r : RvL hT ρ h vs [p, q]) (hp : qx p = some x) (hq : qx q = some y) : ∃ t u, vs = [.str x t, .str y u] := by
 cases r with | cons r1 r2 =>
 cases r2 with | cons r2 r3 =>
 cases r3
 obtain ⟨t, rfl, _⟩ := r1.sI hp
 obtain ⟨u, rfl, _⟩ := r2.sI hq
 exact ⟨t, u, rfl⟩
theorem MH : Hl w hT := by
 intro A ρ μ s x t v p S rv hx
 refine Sim.of0 fun r μ' hm Q E P => ?_
 obtain ⟨l, hl, hm⟩ := bnd hm
 obtain ⟨q, hq, hm⟩ := bnd hm
 obtain ⟨y, hy, hm⟩ := bnd hm
 obtain ⟨z, hz, hm⟩ := bnd hm
 obtain ⟨hg, hm⟩ := ifT hm
 obtain ⟨h1, hm⟩ := wj hm
 obtain ⟨a, vs, rfl, ht, hl⟩ := rv.tI hl
 rw [gj hq] at hl
 obtain ⟨t1, t2, rfl⟩ := Ph hl hy hz
 rw [qb (an (an hg).1).1]
 have hT : s.TypeIs (.ref a) "tuple" := let ⟨o, ho, hc, _⟩ := ht; ⟨o, ho, hc⟩
 exact KPt.bin_left (T := "str") (U := "tuple") (op := .Mod) (by decide) (Sw s _ t) hT F.fills_str_mod KPt.fills_tuple F.slot_str_mod
  (T2 F.slot_str_mod (Sw s _ t) F.entry_str_mod (F.args_str_mod_2 _ _) (Dy (x := y) (y := z) (tx := t1) (ty := t2) (of_decide_eq_true (an (an hg).1).2) (of_decide_eq_true (an hg).2)) ⟨ht, fun t' k => ⟨(fun e => nomatch e), P.pret hm S (.str _ _ h1)⟩⟩)
end
end
section
variable {w : Rk} {hT : PP} {A : RE} {l : List Env} {ρ ρ' : List PE} {μ μ₁ μ' : q4} {s : Py} {n : Nat} {env : Env} {outer : List Env} {σ σ' : LE} {h h' : PP} {r : Ev}
abbrev Hs (w : Rk) (hT : PP) : List PE -> PP -> List (Pu × Pu) -> Loc -> Prop := fun ρ' h' a b => a.length = b.length /\ ∃ kvs, Carries (PO prog w) a kvs /\ RvD hT ρ' h' kvs b
theorem VF (H : j4 w hT r n) (pos : Pos) (ks : List (Option Expr)) : ∀ (vs : List Expr) {ρ : List PE} {μ : q4} {s : Py}, ks.length = vs.length -> Act w hT A l env σ ρ μ s.heap n ->
 Sim w hT A (Hs w hT) ρ s (evalPairs (pairTrees ks vs env pos)) (gh r σ ks vs μ) := by
 induction ks with
 | nil =>
   intro vs ρ μ s hl X ht r' μ' hm Q E P
   induction vs using PD with
   | cons _ _ => exact no hm
   | nil => exact pairTrees_nil_walk (P.now (tk := s.toks) (a := []) (μ := μ) (show pret [] μ = _ from hm) X.sr ⟨rfl, [], trivial, .nil⟩ ht)
 | cons k ks ih =>
   intro vs ρ μ s hl X ht r' μ' hm Q E P
   induction k with
   | none => exact no hm
   | some k =>
   induction vs using PD with
   | nil => exact no hm
   | cons v vs =>
   refine pairTrees_cons_walk ?_
   refine (H A l env σ ρ μ s k X).andThen ht hm P fun kv h₁ tk₁ ρ₁ p μ₁ x1 S1 rk ht1 hm1 P1 => ?_
   refine (H A l env σ ρ₁ μ₁ { s with heap := h₁, toks := tk₁ } v (X.le x1 S1)).andThen ht1 hm1 P1 fun vv h₂ tk₂ ρ₂ q μ₂ x2 S2 rv ht2 hm2 P2 => ?_
   refine (ih vs (s := { s with heap := h₂, toks := tk₂ }) (Nat.succ.inj hl) ((X.le x1 S1).le x2 S2)).andThen ht2 hm2 P2 fun us h₃ tk₃ ρ₃ l3 μ₃ x3 S3 ru ht3 hm3 P3 => ?_
   have rv3 := rv.le S2 x3
   refine bK hm3 fun x hx hm3 => ?_
   obtain ⟨t, e, _⟩ := ((rk.le S1 x2).le S2 x3).sI hx
   exact (P3.of hm3).ok ((kv, vv) :: us) h₃ tk₃ ρ₃ ((x, q) :: l3) rfl (Le.refl _ _ _) S3 ⟨congrArg (· + 1) ru.1, ru.2.elim fun kvs q => ⟨(x, vv) :: kvs, ⟨by rw [e]; exact j8 x t, rfl, q.1⟩, .cons rv3 q.2⟩⟩ ht3
theorem Bl {a : List (Pu × Pu)} {b : Loc} {d0 : PE} {n0 : Nat} {q : Except Exn PV × q4} (S : SR w hT ρ μ h) (hn : ρ[n0]? = some d0) (ra : Hs w hT ρ h a b)
 (hm : (if (b.map (·.1)).Nodup /\ (qe μ n0).any (·.isEmpty) = true then some ((.ok (.loc n0) : Except Exn PV), qj μ n0 (.dict b)) else none) = some q) :
 ∃ kvs, Carries (PO prog w) a kvs /\ h.DictOf (PO prog w) d0 [] /\ ∀ h', h'.DictOf (PO prog w) d0 (merged [] kvs) -> RK d0 h h' -> SR w hT ρ (qj μ n0 (.dict b)) h' /\ Le [] ρ h ρ h' := by
 obtain ⟨⟨hnd, hemp⟩, _⟩ := ifT hm
 obtain ⟨e1, kvs, e2, e3⟩ := ra
 obtain ⟨dl, hdl, hemp⟩ := xX hemp
 have e := Rf.mp hemp
 subst e
 obtain ⟨kv1, D1, r1⟩ := S.dictAt hn hdl
 cases r1
 refine ⟨kvs, e2, D1, fun h' D' sb => ?_⟩
 rw [merged_nil_of_nodup kvs (by rw [e3.keys]; exact hnd)] at D'
 have hdρ : d0 ∈ ρ := Rr hn
 exact ⟨S.set hn sb ⟨kvs, D', e3.mono ⟨[], (PS _).symm⟩ (S.kvSet hdρ sb)⟩, Le.set hdρ sb (let ⟨_, _, _, hob, _⟩ := D'; ⟨_, hob⟩)⟩
theorem wo {μ : q4} {c c' : q8} : qj (μ ++ [c]) μ.length c' = μ ++ [c'] := by unfold qj; simp
theorem DH {ks : List (Option Expr)} {vs : List Expr} {pos : Pos} (H : j4 w hT r n) (X : Act w hT A l env σ ρ μ s.heap n) : Sim w hT A (Rv hT) ρ s (eval (.Dict ks vs pos) env) (BA r σ ks vs μ) := by
 intro ht r' μ' hm Q E P
 obtain ⟨g, hm1⟩ := ifT hm
 have Sc : SR w hT (ρ ++ [s.heap.objs.size]) (μ ++ [.dict []]) (s.heap.push SH) := X.sr.cell ⟨[], yk (c := 0) (Rg _ rfl), .nil⟩
 have xc : Le [] ρ s.heap (ρ ++ [s.heap.objs.size]) (s.heap.push SH) := Le.cell _
 induction ks using PD with
 | nil =>
   induction vs using PD with
   | cons _ _ => exact absurd g.2.1 (fun e => nomatch e)
   | nil =>
     obtain ⟨_, hm2⟩ := ifT (show (if (([] : Loc).map (·.1)).Nodup /\ (qe (μ ++ [.dict []]) μ.length).any (·.isEmpty) = true then some ((.ok (.loc μ.length) : Except Exn PV), qj (μ ++ [.dict []]) μ.length (.dict [])) else none) = some (r', μ') from hm1)
     rw [wo] at hm2
     exact wpAny_Dict_empty ((P.of hm2).ok _ _ s.toks _ _ rfl xc Sc (.loc (jD X.sr)) ht)
 | cons k ks =>
   refine wpAny_Dict_walk (knd := PO prog w) g.2.2 g.2.1 (fun e => nomatch e) (by have := g.1; lia) ?_
   refine (VF H pos (k :: ks) vs (s := { s with heap := s.heap.push SH }) g.2.1 (X.le xc Sc)).andThen ht hm1 (P.le (tk := s.toks) xc) fun a h₁ tk₁ ρ₁ b μ₁ x1 S1 ra ht1 hm2 P1 => ?_
   have hn := jn x1.pre (jD (a := s.heap.objs.size) X.sr)
   exact (Bl S1 hn ra hm2).elim fun kvs z => ⟨kvs, z.1, z.2.1, fun h' D' sb => (P1.of (ifT hm2).2).ok _ h' (tk₁ + a.length) ρ₁ _ rfl (z.2.2 h' D' sb).2 (z.2.2 h' D' sb).1 (.loc hn) (Nat.le_add_right_of_le ht1)⟩
theorem ID (w : Rk) : bu (KK w) (.ref 187) "_headers" = some none := by kernel_rfl
end
theorem Nq (w : Rk) : ([("__contains__", 121), ("__setitem__", 102), ("__delitem__", 107), ("__str__", 163), ("__init__", 81)] : List (Str × PE)).all (fun p => bu (KK w) (.ref 187) p.1 == some (some (.ref p.2)) && isFn (KK w) (.ref p.2)) = true := by kernel_rfl
theorem ZW (w : Rk) : noSeq (KK w) 187 = true := by kernel_rfl
theorem w4 {w : Rk} {nm : Str} {f : PE} (h : (nm, f) ∈ ([("__contains__", 121), ("__setitem__", 102), ("__delitem__", 107), ("__str__", 163), ("__init__", 81)] : List (Str × PE))) : bu (KK w) (.ref 187) nm = some (some (.ref f)) /\ isFn (KK w) (.ref f) = true := by
 have := PT.mp (Nq w) _ h
 simpa only [Rl, beq_iff_eq] using this
section
variable {w : Rk} {hT : PP} {A : RE} {l : List Env} {ρ ρ' : List PE} {μ μ₁ μ' : q4} {s : Py} {n : Nat} {env : Env} {outer : List Env} {σ σ' : LE} {h h' : PP} {r : Ev}
theorem SR.inst0 (S : SR w hT ρ μ h) {m d : Nat} {a : PE} (hn : ρ[m]? = some a) (hc : zZ μ m = some d) : ∃ ox od, InstAt h a ox 187 od := by
 obtain ⟨x, hx, ho⟩ := S.cells m a _ hn (vy hc)
 obtain ⟨o, hob, _⟩ := S.data (Rr hx)
 exact ⟨_, some o, ho, rfl, rfl, hob⟩
theorem Qo {M : U9} {a : PE} {ox : Obj} {od : Option Obj} {v : Pu} {Q : Bool -> Py -> Prop} {E : Pu -> Py -> Prop} (X : (KK w).In s.heap) (I : InstAt s.heap a ox 187 od)
 (h : PQ M A (call (.ref 121) [.ref a, v]) (fun r s' => PQ M A (bm r) Q E s') E s) : PQ M A (contains (.ref a) v) Q E s := by
 obtain ⟨hs, hf⟩ := w4 (w := w) (nm := "__contains__") (f := 121) (by decide)
 unfold contains
 refine wpAny_holding (wpAny_bind (wpAny_bind (I.type.here ((looks_findIn X hs).here ?_))))
 rw [if_neg (by simp)]
 exact wpAny_bind (unlessNone_K X I hs hf h)
theorem JH {M : U9} {a : PE} {ox : Obj} {od : Option Obj} {i v : Pu} {Q : Unit -> Py -> Prop} {E : Pu -> Py -> Prop} (X : (KK w).In s.heap) (I : InstAt s.heap a ox 187 od)
 (h : PQ M A (call (.ref 102) [.ref a, i, v]) (fun zz s' => Q () s') E s) : PQ M A (bf (.ref a) i v) Q E s := by
 obtain ⟨hs, hf⟩ := w4 (w := w) (nm := "__setitem__") (f := 102) (by decide)
 unfold bf sequenceKey
 refine wpAny_holding (wpAny_bind (wpAny_bind (I.type.here ?_)))
 refine wpAny_bind ((anyM_none X (ZW w)).here ?_)
 rw [if_pos (show (!false) = true from rfl)]
 exact wpAny_pure (wpAny_bind (special_fn X I hs (beq_iff_eq.mp hf) (RG h (fun zz zz z => wpAny_pure z) fun zz zz z => z)))
theorem VH {v : Pu} {p : PV} (r : Rv hT ρ h v p) (hp : WG p = false) : handedIn v = true := by
 cases r <;> first | rfl | cases hp
theorem Ke {a : PE} {m d : Nat} {dl : Loc} {p : PV} {expr : Bool} {Q : Pu -> Py -> Prop} {E : Pu -> Py -> Prop} (G : GF w hT) (S : SR w hT ρ μ s.heap) (hn : ρ[m]? = some a) (hc : zZ μ m = some d) (hdl : qe μ d = some dl) (hp : x9 dl "_headers" = some p) (hv : WG p = false)
 (k : ∀ v, Rv hT ρ s.heap v p -> Q v { s with toks := s.toks + 1 }) : PQ (MM w) A (getAttr (.ref a) "_headers" expr) Q E s := by
 obtain ⟨x, kvs, hx, ha, hd, hr⟩ := S.instAt hn hc hdl
 obtain ⟨ob, ho, hlk⟩ := xL hd ("_headers" : Str)
 obtain ⟨v, hv1, hv2⟩ := gV hr hp
 exact get_value (G.kin S) (wm ha ho) (KV w) (findObj_own (B4 w) (ID w) rfl (hlk.trans (by rw [hv1]))) (VH hv2 hv) (k v hv2)
theorem Eo {o : Expr} {name : Str} {pos : Pos} (G : GF w hT) (H : j4 w hT r n) (X : Act w hT A l env σ ρ μ s.heap n) : Sim w hT A (Rv hT) ρ s (eval (.Attribute o name pos) env) (GC r σ o name μ) := by
 intro ht r' μ' hm Q E P
 obtain ⟨hg, hm1⟩ := ifT hm
 clear hm
 have e := qb (an hg).2
 have g1 := (an hg).1
 clear hg
 subst e
 refine Attribute_any_ ?_ (by rw [arm_eval_Attribute, wJ g1])
 refine (H A l env σ ρ μ s o X).andThen ht hm1 P fun a h₁ tk₁ ρ₁ p μ₁ x1 S1 ra ht1 hm2 P1 => ?_
 refine bK hm2 fun d hd hm3 => bK hm3 fun dl hdl hm4 => bK hm4 fun q hq hm5 => iB hm5 fun hv hm6 => ?_
 obtain ⟨m, h1, h2⟩ := bnd hd
 obtain ⟨b, e, hn⟩ := ra.lI h1
 subst e
 exact Ke (s := { s with heap := h₁, toks := tk₁ }) G S1 hn h2 hdl hq hv fun v rv => (P1.of hm6).ok v h₁ (tk₁ + 1) ρ₁ q rfl (Le.refl _ _ _) S1 rv (Ru ht1)
theorem FC {op : Uv} {a b : Pu} {p q : PV} (G : GF w hT) (HC : jR w hT r n) (X : Act w hT A l env σ ρ μ s.heap n) (ra : Rv hT ρ s.heap a p) (rb : Rv hT ρ s.heap b q) : Sim w hT A (Rv hT) ρ s (compareOp op a b) (WU r op p q μ) := by
 intro ht r' μ' hm Q E P
 unfold WU at hm
 induction hg : (if (Dj op && zB p) = true then qw μ q else none) with
 | none => rw [hg] at hm; exact V6 X.sr X.rm ra rb ht _ _ hm Q E P
 | some d =>
   rw [hg] at hm
   obtain ⟨g1, g2⟩ := ifT hg
   have hop : op = .In := by induction op <;> first | rfl | exact noB (an g1).1
   obtain ⟨m, h1, hc⟩ := bnd g2
   obtain ⟨y, e, hn⟩ := rb.lI h1
   have ep := jJ h1
   clear hg g1 g2 h1
   subst e ep hop
   obtain ⟨ox, od, I⟩ := X.sr.inst0 hn hc
   refine wpAny_bind (Qo (w := w) (G.kin X.sr) I ?_)
   refine (HC A l ρ μ s 121 [_, a] [_, p] [] [] X.sr X.sk X.rm (.cons (.loc hn) (.cons ra .nil)) .nil).sim.andThen ht hm P fun c h₃ tk₃ ρ₃ t μ₃ x3 S3 rc ht3 hm3 P3 => ?_
   refine (wi (s := { s with heap := h₃, toks := tk₃ }) S3 rc).andThen ht3 hm3 P3 fun b h₄ tk₄ ρ₄ c μ₄ x4 S4 rv ht4 hm4 P4 => wpAny_pure ?_
   exact rv ▸ P4.now (s := { s with heap := h₄, toks := tk₄ }) hm4 S4 (.bool _) ht4
theorem Y4 {e₁ : Expr} {ops : List Uv} {xs : List Expr} {pos : Pos} (G : GF w hT) (H : j4 w hT r n) (HC : jR w hT r n) (X : Act w hT A l env σ ρ μ s.heap n) : Sim w hT A (Rv hT) ρ s (eval (.Compare e₁ ops xs pos) env) (M1 r σ e₁ ops xs μ) := by
 intro ht r' μ' hm Q E P
 induction ops using PD with
 | nil => exact no hm
 | cons op ops =>
 induction ops using PD with
 | cons _ _ => exact no hm
 | nil =>
 induction xs using PD with
 | nil => exact no hm
 | cons x xs =>
 induction xs using PD with
 | cons _ _ => exact no hm
 | nil =>
 refine iB hm fun hs hm => wpAny_Compare1 ?_ (kB hs)
 refine (H A l env σ ρ μ s e₁ X).andThen ht hm P fun a h₁ tk₁ ρ₁ p μ₁ x1 S1 ra ht1 hm1 P1 => ?_
 refine (H A l env σ ρ₁ μ₁ { s with heap := h₁, toks := tk₁ } x (X.le x1 S1)).andThen ht1 hm1 P1 fun b h₂ tk₂ ρ₂ q μ₂ x2 S2 rb ht2 hm2 P2 => ?_
 exact FC (s := { s with heap := h₂, toks := tk₂ }) G HC ((X.le x1 S1).le x2 S2) (ra.le S1 x2) rb ht2 _ _ hm2 Q E P2
end
theorem Ic : (fns.all fun p => !(p.1 == ("__debug__" : Str))) = true := by decide
section
variable {w : Rk} {hT : PP} {A : RE} {l : List Env} {ρ ρ' : List PE} {μ μ₁ μ' : q4} {s : Py} {n : Nat} {env : Env} {outer : List Env} {σ σ' : LE} {h h' : PP} {r : Ev}
theorem jZ {M : U9} {f : Str} {fp pos : Pos} {args : List Expr} {Q : Pu -> Py -> Prop} {E : Pu -> Py -> Prop} (h : PQ M A (eval (.Name f fp) env) (fun v s₁ => PQ M A (Tj pos v [] (Tc pos (Sr args env)) []) Q E s₁) E s) :
 PQ M A (eval (.Call (.Name f fp) args [] pos) env) Q E s := by
 show PQ M A (do Tj pos (<- eval (.Name f fp) env) [] (Tc pos (Sr args env)) (Tv pos (SD [] env))) Q E s
 exact wpAny_bind h
theorem RvL.one {vs : List Pu} {ps : List PV} {p : PV} (r : RvL hT ρ h vs ps) (e : Mine.one ps = some p) : ∃ v, vs = [v] /\ Rv hT ρ h v p := by
 have e := jM e
 subst e
 cases r with | cons a r => cases r; exact ⟨_, rfl, a⟩
theorem Q8 {o : Expr} {apos pos : Pos} {d : PE} {kvs : List (Str × Pu)} {Q : Pu -> Py -> Prop} {E : Pu -> Py -> Prop} (D : s.heap.DictOf (PO prog w) d kvs) (hd : (d == T1) = false) (hline : (apos.endLine == pos.line) = true)
 (h : Q (.ref s.heap.objs.size) { s with heap := s.heap.push { cls := .type "dict_items", data := .fields #[.ref d] } }) :
 PQ (MM w) A (Tw o "items" apos pos env (.ref d) (([] : List Expr).length + ([] : List SE).length) (Tc pos (Sr [] env)) (Tv pos (SD [] env))) Q E s := by
 refine qZ (yH (args := []) rfl (by simp)) hline fun pl => ?_
 refine getMethod_builtin D.typeIs PySem.F.plainAttrs_dict Ab PySem.F.type_dict_items D.mapOf.noDict ?_
 refine callWith_builtin rfl (evalArgs_nil3 ?_)
 exact call_meetsIn Ab D.typeIs PySem.F.entry_dict_items (PySem.F.args_dict_items_1 _) (meets_dict_items (PO prog w) d hd) ⟨⟨kvs, D⟩, h⟩
theorem Qv {o : Expr} {apos pos : Pos} {β : Type} {rel : List PE -> PP -> Pu -> β -> Prop} {r' : Except Exn β} {Q : Pu -> Py -> Prop} {Q₀ : Pu -> Py -> Prop} {E : Pu -> Py -> Prop} {g : PV -> PM β} (H : j4 w hT r n) (X : Act w hT A l env σ ρ μ s.heap n) (hb : qT o = true) (hline : (apos.endLine == pos.line) = true)
 (ht : 1 <= s.toks) (hm : (qa (r.ev σ o μ) g) = some (r', μ')) (P : xH w hT rel ρ s r' μ' Q₀ E)
 (k : ∀ a h₁ tk₁ ρ₁ p μ₁, Le [] ρ s.heap ρ₁ h₁ -> SR w hT ρ₁ μ₁ h₁ -> Rv hT ρ₁ h₁ a p -> 1 <= tk₁ -> g p μ₁ = some (r', μ') -> xH w hT rel ρ₁ { s with heap := h₁, toks := tk₁ } r' μ' Q₀ E ->
   ∃ d kvs, a = .ref d /\ h₁.DictOf (PO prog w) d kvs /\ (d == T1) = false /\ Q (.ref h₁.objs.size) { s with heap := h₁.push { cls := .type "dict_items", data := .fields #[.ref d] }, toks := tk₁ }) :
 PQ (MM w) A (eval (.Call (.Attribute o "items" apos) [] [] pos) env) Q E s := by
 refine yc hb ?_
 refine (H A l env σ ρ μ s o X).andThen ht hm P fun a h₁ tk₁ ρ₁ p μ₁ x1 S1 ra ht1 hm1 P1 => ?_
 obtain ⟨d, kvs, rfl, D, hd, hq⟩ := k a h₁ tk₁ ρ₁ p μ₁ x1 S1 ra ht1 hm1 P1
 exact Q8 (s := { s with heap := h₁, toks := tk₁ }) D hd hline hq
theorem CT {f : Str} {fp pos : Pos} {id : String} {args : List Expr} {g : PV -> PM PV} (H : j4 w hT r n) (X : Act w hT A l env σ ρ μ s.heap n) (hs : args.all (!qf ·) = true)
 (hn : ∀ {Q : Pu -> Py -> Prop} {E : Pu -> Py -> Prop}, Q (.builtin id) s -> PQ (MM w) A (eval (.Name f fp) env) Q E s)
 (hk : ∀ ρ₁ μ₁ s₁ v p, Act w hT A l env σ ρ₁ μ₁ s₁.heap n -> Rv hT ρ₁ s₁.heap v p -> Sim w hT A (Rv hT) ρ₁ s₁ (call (.builtin id) [v]) (g p μ₁)) :
 Sim w hT A (Rv hT) ρ s (eval (.Call (.Name f fp) args [] pos) env) (qa (evL r σ args μ) fun vs μ => (one vs).bind fun v => g v μ) := by
 intro ht r' μ' hm Q E P
 refine jZ (hn ?_)
 refine callWith_builtin (by rw [q9 hs]; simp) (qP (qI hs) ?_)
 rw [q9 hs]
 refine (x8 H args X).andThen ht hm P fun vs h₁ tk₁ ρ₁ ps μ₁ x1 S1 rvs ht1 hm1 P1 => bK hm1 fun p hp hm1 => ?_
 obtain ⟨v, e, rv⟩ := rvs.one hp
 exact e ▸ hk ρ₁ μ₁ { s with heap := h₁, toks := tk₁ } v p (X.le x1 S1) rv ht1 _ _ hm1 Q E P1
theorem Ch {f : Str} {fp pos : Pos} {T : String} {args : List Expr} {g : PV -> PM PV} (H : j4 w hT r n) (X : Act w hT A l env σ ρ μ s.heap n) (hs : args.all (!qf ·) = true)
 (hn : ∀ {Q : Pu -> Py -> Prop} {E : Pu -> Py -> Prop}, Q (.type T) s -> PQ (MM w) A (eval (.Name f fp) env) Q E s)
 (hk : ∀ ρ₁ μ₁ s₁ v p, Act w hT A l env σ ρ₁ μ₁ s₁.heap n -> Rv hT ρ₁ s₁.heap v p -> Sim w hT A (Rv hT) ρ₁ s₁ (call (.type T) [v]) (g p μ₁)) :
 Sim w hT A (Rv hT) ρ s (eval (.Call (.Name f fp) args [] pos) env) (qa (evL r σ args μ) fun vs μ => (one vs).bind fun v => g v μ) := by
 intro ht r' μ' hm Q E P
 refine jZ (hn ?_)
 refine TP (by rw [q9 hs]; simp) (qP (qI hs) ?_)
 rw [q9 hs]
 refine (x8 H args X).andThen ht hm P fun vs h₁ tk₁ ρ₁ ps μ₁ x1 S1 rvs ht1 hm1 P1 => bK hm1 fun p hp hm1 => ?_
 obtain ⟨v, e, rv⟩ := rvs.one hp
 exact e ▸ hk ρ₁ μ₁ { s with heap := h₁, toks := tk₁ } v p (X.le x1 S1) rv ht1 _ _ hm1 Q E P1
end
theorem Bu (w : Rk) : makesIn (KK w) 187 = true := by kernel_rfl
section
variable {w : Rk} {hT : PP} {A : RE} {l : List Env} {ρ ρ' : List PE} {μ μ₁ μ' : q4} {s : Py} {n : Nat} {env : Env} {outer : List Env} {σ σ' : LE} {h h' : PP} {r : Ev}
theorem SR.cellAt (S : SR w hT ρ μ h) (k : ∀ b o, h.get? b = some o -> h'.get? b = some o) {a : PE} {c : q8} (ha : h.objs.size <= a) (hc : Rc w hT (ρ ++ [a]) h' a c) : SR w hT (ρ ++ [a]) (μ ++ [c]) h' := by
 have hbig : T1 < h.objs.size := by
  obtain ⟨⟨b, o, hb, ho⟩, _⟩ := S.low
  exact b5 hb (RJ (S.top _ _ ho))
 refine ⟨fun b o e => k _ _ (S.top b o e), ?_, by simp [S.len], fun b hb => ?_, ⟨S.low.1, fun b hb => ?_⟩, fun n b d h1 h2 => ?_⟩
 ·refine US.mpr ⟨S.nodup, by simp, fun x hx b hb => ?_⟩
  rw [Pw.mp hb]
  exact RQ (PZ (S.lt hx) ha)
 ·rcases PU.mp hb with q | q
  ·exact S.notop b q
  ·rw [Pw.mp q]
   induction q' : hT.get? a with
   | none => rfl
   | some o' => exact absurd (RJ (S.top _ _ q')) (Sh.mpr ha)
 ·rcases PU.mp hb with q | q
  ·exact S.low.2 b q
  ·rw [Pw.mp q]; exact PZ hbig ha
 ·by_cases hn : n < ρ.length
  ·rw [RB hn] at h1
   rw [RB (S.len ▸ hn)] at h2
   exact Rc.keeps k (S.cells n b d h1 h2)
  ·have hn' : n = ρ.length := by
    have := (R0.mp h1).1
    simp at this; lia
   subst hn'
   rw [Rn (PK _), Ss] at h1
   rw [S.len, Rn (PK _), Ss] at h2
   cases h1; cases h2
   exact hc
theorem Zc {a : PE} (ha : h.objs.size <= a) : h.get? a = none := by
 induction q : h.get? a with
 | none => rfl
 | some o => exact absurd (RJ q) (Sh.mpr ha)
theorem Le.cellAt (k : ∀ b o, h.get? b = some o -> h'.get? b = some o) {a : PE} (ha : h.objs.size <= a) : Le [] ρ h (ρ ++ [a]) h' :=
 ⟨⟨[a], rfl, fun b hb => by rw [Pw.mp hb]; exact Zc ha⟩, Kp.of_keeps fun b o zz => k b o, fun b o e => ⟨o, k b o e⟩, fun b o e zz zz zz => k b o e⟩
theorem v7.andThen {γ δ : Type} {rel' : List PE -> PP -> γ -> δ -> Prop} {a : PE} {vs : List Pu} {kws : List (Str × Pu)} {m : PR PV} {g : PV -> PM δ} {res : Except Exn δ} {Q : γ -> Py -> Prop} {Q' : Pu -> Py -> Prop} {E : Pu -> Py -> Prop}
 (S : v7 w hT A ρ s a vs kws m) (h1 : 1 <= s.toks) (hm : qa m g = some (res, μ')) (P : xH w hT rel' ρ s res μ' Q E)
 (k : ∀ a h' tk ρ' b μ₁, Le [] ρ s.heap ρ' h' -> SR w hT ρ' μ₁ h' -> Rv hT ρ' h' a b -> 1 <= tk -> g b μ₁ = some (res, μ') -> xH w hT rel' ρ' { s with heap := h', toks := tk } res μ' Q E -> Q' a { s with heap := h', toks := tk }) :
 TC (MM w) A (.call (.ref a) ⟨vs, kws⟩) (fun r s' => match r with | .ok (.ret v) => Q' v s' | .ok _ => False | .error e => E e s') s := by
 rcases wV hm with ⟨x, hm', hr⟩ | ⟨b, μ₁, hm', hg⟩
 ·refine S h1 _ _ hm' Q' E ⟨fun a h' tk ρ' b e => (nomatch e), fun e h' tk ρ' y hy le sr ex => ?_⟩
  cases hy
  exact P.err e h' tk ρ' x hr le sr ex
 ·refine S h1 _ _ hm' Q' E ⟨fun a' h' tk ρ' b' hb le sr rv ht => ?_, fun e h' tk ρ' y hy => (nomatch hy)⟩
  cases hb
  exact k a' h' tk ρ' _ μ₁ le sr rv ht hg (P.le le)
theorem jX.in1 (R : jX A (n + 1)) : jX A.in1 n := ⟨R.1, by have := R.2.1; show A.depth + n + 20 < _; lia, by have := R.2.2; show A.units + 1 + 20 * n + 200 < _; lia⟩
theorem jX.in2 (R : jX A (n + 1)) : jX A.in1.in1 n := ⟨R.1, by have := R.2.1; show A.depth + n + 20 < _; lia, by have := R.2.2; show A.units + 1 + 1 + 20 * n + 200 < _; lia⟩
theorem Stk.in1 (K : Stk hT A ρ h l) : Stk hT A.in1 ρ h l := ⟨K.fr, K.ff, K.out⟩
theorem jX.made (R : jX A (n + 1)) (vs : List Pu) : jX (A.under (.builtin "type.__call__" ⟨.ref 187 :: vs, []⟩)) n := by
 have e1 : (A.under (.builtin "type.__call__" ⟨.ref 187 :: vs, []⟩)).depth = A.depth + 1 := rfl
 have e2 : (A.under (.builtin "type.__call__" ⟨.ref 187 :: vs, []⟩)).units = A.units + 1 := rfl
 exact ⟨R.1, by rw [e1]; have := R.2.1; lia, by rw [e2]; have := R.2.2; lia⟩
theorem Stk.made (K : Stk hT A ρ h l) (vs : List Pu) : Stk hT (A.under (.builtin "type.__call__" ⟨.ref 187 :: vs, []⟩)) ρ h l := ⟨K.fr, K.ff, K.out⟩
theorem B5 {vs : List Pu} {ps : List PV} (G : GF w hT) (HC : jR w hT r n) (S : SR w hT ρ μ s.heap) (K : Stk hT A ρ s.heap l) (R : jX A (n + 1)) (rvs : RvL hT ρ s.heap vs ps) :
 Sim w hT A (Rv hT) ρ s (call (.ref 187) vs) (J7 r ps μ) := by
 intro ht r' μ' hm Q E P
 obtain ⟨hs, hf⟩ := w4 (w := w) (nm := "__init__") (f := 81) (by decide)
 have X := G.kin S
 have Sd : SR w hT (ρ ++ [s.heap.objs.size]) (μ ++ [.dict []]) (s.heap.push SH) := S.cell ⟨[], yk (c := 0) (Rg _ rfl), .nil⟩
 have xd : Le [] ρ s.heap (ρ ++ [s.heap.objs.size]) (s.heap.push SH) := Le.cell _
 have hsz : (s.heap.push SH).objs.size = s.heap.objs.size + 1 := SL ..
 have Si : SR w hT (ρ ++ [s.heap.objs.size] ++ [s.heap.objs.size + 1]) (μ ++ [.dict []] ++ [.inst μ.length]) ((s.heap.push SH).push (Uz 187 s.heap.objs.size)) := by
  have := Sd.cell (o := Uz 187 s.heap.objs.size) (c := .inst μ.length) ⟨s.heap.objs.size, jn ⟨_, rfl⟩ (jD S), Rg _ rfl⟩
  rw [hsz] at this
  exact this
 have xi : Le [] (ρ ++ [s.heap.objs.size]) (s.heap.push SH) (ρ ++ [s.heap.objs.size] ++ [s.heap.objs.size + 1]) ((s.heap.push SH).push (Uz 187 s.heap.objs.size)) := by
  have := Le.cell (ρ := ρ ++ [s.heap.objs.size]) (h := s.heap.push SH) (Uz 187 s.heap.objs.size)
  rw [hsz] at this
  exact this
 have hn : (ρ ++ [s.heap.objs.size] ++ [s.heap.objs.size + 1])[μ.length + 1]? = some (s.heap.objs.size + 1) := by
  have := jD (a := s.heap.objs.size + 1) Sd
  simpa using this
 have hm : qa (r.call ZA (.loc (μ.length + 1) :: ps) [] (μ ++ [.dict [], .inst μ.length])) (fun v => if We v then pret (.loc (μ.length + 1)) else fun zz => none) = some (r', μ') := hm
 rw [show μ ++ [.dict [], .inst μ.length] = μ ++ [q8.dict []] ++ [.inst μ.length] from (PH μ [q8.dict []] [.inst μ.length]).symm] at hm
 refine Ak ?_
 have key := (HC (A.under (.builtin "type.__call__" ⟨.ref 187 :: vs, []⟩)) l _ _ { s with heap := (s.heap.push SH).push (Uz 187 s.heap.objs.size) } 81 (.ref (s.heap.objs.size + 1) :: vs) (.loc (μ.length + 1) :: ps) [] [] Si (((K.le xd).le xi).made vs) (R.made vs) (.cons (.loc hn) ((rvs.le S xd).le Sd xi)) .nil).andThen
  (Q' := fun v s' => v = .none /\ Q (.ref (s.heap.objs.size + 1)) s') ht hm (P.le (tk := s.toks) (xd.trans xi)) fun v h₁ tk₁ ρ₁ p μ₁ x1 S1 rv ht1 hm1 P1 => by
    induction p using PV.casesOn <;> first | exact no hm1 | exact ⟨rv.inv, P1.now (s := { s with heap := h₁, toks := tk₁ }) hm1 S1 (.loc (jn x1.pre hn)) ht1⟩
 obtain ⟨hh, g, d, t, os⟩ := s
 refine make_core (makes_of X (Bu w)) (looks_findIn X hs) (fun self => bind_fn X self (beq_iff_eq.mp hf)) (.inl rfl) ?_
 refine codeAny_mono key fun q s' z => ?_
 rcases q with e' | (v | _ | _ | _) <;> first | exact z | exact z.elim
theorem Cz {v : Pu} {p : PV} (S : SR w hT ρ μ s.heap) (rv : Rv hT ρ s.heap v p) : Sim w hT A (Rv hT) ρ s (call (.builtin "len") [v]) (GH p μ) := by
 refine Sim.of0 fun r' μ' hm Q E P => ?_
 unfold GH at hm
 induction hp : qx p with
 | some x =>
   rw [hp] at hm
   obtain ⟨t, rfl, hx⟩ := rv.sI hp
   exact PySem.P.len_str (Ha (RI hx big)) (P.pret hm S (.int _ _))
 | none =>
   rw [hp] at hm
   obtain ⟨ll, hl, hm⟩ := bnd hm
   obtain ⟨a, _, vs, _, _, rfl, hp, hv, hlv, hb⟩ := rv.list S hl
   refine len_list (PlainList.isList hp) (EI (RI (TB hlv) (RI hb Nm))) ?_
   rw [show (vs.toArray.size : Int) = ll.length from congrArg Int.ofNat hlv]
   exact P.pret hm S (.int _ _)
theorem Gd {v : Pu} {p : PV} (S : SR w hT ρ μ s.heap) (rv : Rv hT ρ s.heap v p) : Sim w hT A (Rv hT) ρ s (call (.type "type") [v]) (ZF p μ) := by
 refine Sim.of0 fun r' μ' hm Q E P => ?_
 unfold ZF at hm
 induction hp : qx p with
 | some x =>
   rw [hp] at hm
   obtain ⟨t, rfl, _⟩ := rv.sI hp
   exact call_type_of (Sw _ _ _) (by decide) (P.pret (tk := s.toks) hm S (.val _))
 | none =>
   rw [hp] at hm
   obtain ⟨ll, hl, hm⟩ := bnd hm
   obtain ⟨a, _, vs, _, _, rfl, hp, _⟩ := rv.list S hl
   exact call_type_of (PlainList.isList hp).typeIs (by decide) (P.pret (tk := s.toks) hm S (.val _))
theorem De {v : Pu} {p : PV} (S : SR w hT ρ μ s.heap) (rv : Rv hT ρ s.heap v p) : Sim w hT A (Rv hT) ρ s (call (.builtin "ord") [v]) (HN p μ) := by
 refine Sim.of0 fun r' μ' hm Q E P => ?_
 obtain ⟨x, hx, hm1⟩ := bnd hm
 obtain ⟨h1, hm2⟩ := ifT hm1
 obtain ⟨t, e, _⟩ := rv.sI hx
 clear hm hm1 hx rv
 subst e
 obtain ⟨⟨cs⟩⟩ := x
 induction cs using PD with
 | nil => cases h1
 | cons c cs => induction cs using PD with
   | cons _ _ => cases h1
   | nil => exact PySem.P.ord_of_char (P.pret hm2 S (.int _ _))
theorem Eg {v : Pu} {p : PV} (S : SR w hT ρ μ s.heap) (rv : Rv hT ρ s.heap v p) : Sim w hT A (Rv hT) ρ s (call (.builtin "chr") [v]) (L1 p μ) := by
 refine Sim.of0 fun r' μ' hm Q E P => ?_
 obtain ⟨i, hx, hm⟩ := bnd hm
 obtain ⟨hi, hm⟩ := ifT hm
 obtain ⟨t, rfl⟩ := rv.iI hx
 exact PySem.P.chr_of_int (by simp; lia) (P.pret hm S (.str _ _ Fq))
theorem F9 {v : Pu} {p : PV} (G : GF w hT) (HC : jR w hT r n) (X : Act w hT A l env σ ρ μ s.heap (n + 1)) (rv : Rv hT ρ s.heap v p) : Sim w hT A (Rv hT) ρ s (call (.type "str") [v]) (EG r p μ) := by
 intro ht r' μ' hm Q E P
 obtain ⟨d, hd, hm1⟩ := bnd hm
 clear hm
 obtain ⟨m, h1, hc⟩ := bnd hd
 obtain ⟨b, e, hn⟩ := rv.lI h1
 have ep := jJ h1
 clear hd h1 rv
 subst e ep
 obtain ⟨hs, hf⟩ := w4 (w := w) (nm := "__str__") (f := 163) (by decide)
 obtain ⟨ox, od, I⟩ := X.sr.inst0 hn hc
 refine kso_call (by have := X.rm.2.2; show A.units + 1 + 1 < cj; lia) (G.kin X.sr) I hs hf ?_
 refine (HC A.in1.in1 l ρ μ s 163 [_] [.loc m] [] [] X.sr X.sk.in1.in1 X.rm.in2 (.cons (.loc hn) .nil) .nil).sim.andThen ht hm1 P fun a h₁ tk₁ ρ₁ q μ₁ x1 S1 ra ht1 hm2 P1 => ?_
 induction q using PV.casesOn <;> first | exact no hm2 | skip
 obtain ⟨t, rfl, hx⟩ := ra.inv
 exact P1.now (s := { s with heap := h₁, toks := tk₁ }) hm2 S1 (.str _ _ hx) ht1
theorem RvL.ofIdx : ∀ {vs : List Pu} {ps : List PV}, vs.length = ps.length -> (∀ (j : Nat) (v : Pu) (p : PV), vs[j]? = some v -> ps[j]? = some p -> Rv hT ρ h v p) -> RvL hT ρ h vs ps
 | [], [], _, _ => .nil
 | [], _ :: _, e, _ => by simp at e
 | _ :: _, [], e, _ => by simp at e
 | v :: vs, p :: ps, e, k => .cons (k 0 v p rfl rfl) (RvL.ofIdx (by simpa using e) fun j v p h1 h2 => k (j + 1) v p (by simpa using h1) (by simpa using h2))
theorem RvD.get {kvs : List (Str × Pu)} {l : Loc} {k : Str} {x : Pu} (r : RvD hT ρ h kvs l) : ∀ {j : Nat}, kvs[j]? = some (k, x) -> ∃ p, l[j]? = some (k, p) /\ Rv hT ρ h x p := by
 induction r with
 | nil => exact fun e => no e
 | @cons _ _ p _ _ a _ ih =>
   intro j e
   induction j using AN with
   | zero => have e := qk e; cases e; exact ⟨_, rfl, a⟩
   | succ j => exact ih e
theorem RvD.length {kvs : List (Str × Pu)} {l : Loc} (r : RvD hT ρ h kvs l) : kvs.length = l.length := by
 induction r with
 | nil => rfl
 | cons _ _ ih => exact congrArg (· + 1) ih
theorem Z6 {m d v : Nat} {dl : Loc} (hh : A.handled = none) (S : SR w hT ρ μ s.heap) (hn : ρ[m]? = some d) (hl : qe μ m = some dl) (hall : (dl.all fun kv => decide (kv.1.length <= Pr)) = true) (hlen : dl.length <= Pr)
 (hv : s.heap.IsItemsView v d) : Sim w hT A (Rv hT) ρ s (call (.type "list") [.ref v]) (jr (dl.map fun kv => .tup [.str kv.1, kv.2]) μ) := by
 refine Sim.of0 fun r' μ' hm Q E P => ?_
 obtain ⟨hl2, hm⟩ := zI hm
 obtain ⟨kvs, D, hr⟩ := S.dictAt hn hl
 obtain ⟨ep, D⟩ := D.dictAt
 have hkl := hr.length
 refine kdx_call (knd := PO prog w) (kvs := kvs) (ep := ep) hh hv D (by lia) fun h' tk acc c as hk hS hla hG hacc => ?_
 have ea : acc = (as.map ai).toArray := by rw [<- hacc, Array.toArray_toList]
 have hx : ∃ more, ρ ++ [s.heap.objs.size] = ρ ++ more := ⟨_, rfl⟩
 have kv : Kv s.heap h' := Kv.of_keeps hk
 have hrv : RvL hT (ρ ++ [s.heap.objs.size]) h' (as.map ai) (dl.map fun kv => .tup [.str kv.1, kv.2]) := by
  refine RvL.ofIdx (by simp; lia) fun j v p h1 h2 => ?_
  rw [SW] at h1 h2
  obtain ⟨a, ha, rfl⟩ := Sv.mp h1
  obtain ⟨kp, hkp, rfl⟩ := Sv.mp h2
  obtain ⟨key, k, x, e1, e2, e3⟩ := hG.pairs j a ha
  obtain ⟨t, rfl⟩ := TO (show To k key = true from e2)
  obtain ⟨p, hp1, hp2⟩ := hr.get e1
  rw [hp1] at hkp
  cases hkp
  have hkl := PT.mp hall (k, p) (Rr hp1)
  simp only [decide_eq_true_eq] at hkl
  exact .tup (vs := [.str k t, x]) ⟨_, e3, rfl, 0, rfl⟩ (.cons (.str k t hkl) (.cons (hp2.mono hx kv) .nil))
 have hcell : Rc w hT (ρ ++ [s.heap.objs.size]) h' s.heap.objs.size (.list (dl.map fun kv => .tup [.str kv.1, kv.2])) := ⟨by simp; lia, as.map ai, ⟨c, by rw [<- ea]; exact hS⟩, hrv⟩
 cases hm
 exact P.ok _ h' tk _ _ rfl (Le.cellAt hk (PK _)) (S.cellAt hk (PK _) hcell) (.loc (jD S))
theorem C0 (w : Rk) : keepIn (KK w) (.ref 187) = true := by kernel_rfl
theorem NP {f : Str} {fp pos : Pos} {args : List Expr} {a : PE} (G : GF w hT) (H : j4 w hT r n) (HC : jR w hT r n) (X : Act w hT A l env σ ρ μ s.heap n) (g1 : σ.isG f = true) (g2 : args.all (!qf ·) = true) (ha : fns.lookup f = some a) :
 Sim w hT A (Rv hT) ρ s (eval (.Call (.Name f fp) args [] pos) env) (qa (evL r σ args μ) fun vs => r.call a vs []) := by
 intro ht r' μ' hm Q E P
 have hm0 := an (PT.mp (LM w) _ (mem_of_lookup ha))
 have hnd := nt (PT.mp Ic _ (mem_of_lookup ha))
 exact jZ (vF G X.er X.sr g1 (eq_of_beq (an hm0.1).1) hnd (v8 (ps0 := []) G H HC X hm0.2 g2 .nil ht _ _ hm Q E P))
theorem XS {fp pos : Pos} {args : List Expr} (G : GF w hT) (H : j4 w hT r n) (HC : jR w hT r n) (X : Act w hT A l env σ ρ μ s.heap (n + 1)) (g1 : σ.isG "Headers" = true) (g2 : args.all (!qf ·) = true) :
 Sim w hT A (Rv hT) ρ s (eval (.Call (.Name "Headers" fp) args [] pos) env) (qa (evL r σ args μ) (J7 r)) := by
 intro ht r' μ' hm Q E P
 refine jZ (vF G X.er X.sr g1 (v := .ref 187) (by kernel_rfl) rfl ?_)
 refine callWith_of (P := (KK w).In) (by rw [q9 g2]; simp) (keeps_K (C0 w)) (qP (qI g2) ?_)
 rw [q9 g2]
 exact (x8 H args X.down).andThen ht hm P fun vs h₁ tk₁ ρ₁ ps μ₁ x1 S1 rvs ht1 hm1 P1 => ⟨G.kin S1, B5 (s := { s with heap := h₁, toks := tk₁ }) G HC S1 (X.sk.le x1) X.rm rvs ht1 _ _ hm1 Q E P1⟩
theorem DG {fp pos : Pos} {args : List Expr} (G : GF w hT) (H : j4 w hT r n) (X : Act w hT A l env σ ρ μ s.heap n) (g1 : σ.isG "list" = true) (g2 : args.all (!qf ·) = true) :
 Sim w hT A (Rv hT) ρ s (eval (.Call (.Name "list" fp) args [] pos) env) (Ju r σ args μ) := by
 intro ht r' μ' hm Q E P
 obtain ⟨e, he, hm1⟩ := bnd hm
 obtain ⟨⟨o, m, apos, cpos⟩, hq, hm2⟩ := bnd hm1
 obtain ⟨hg, hm3⟩ := ifT hm2
 have e1 := jM he
 have e2 := kJ hq
 have e3 := qb (an (an hg).1).1
 have k2 := (an (an hg).1).2
 have k3 := (an hg).2
 clear hm hm1 hm2 he hq hg
 dsimp only at e2 e3
 subst e2 e3 e1
 refine jZ (zN G X.er X.sr g1 (v := .type "list") (by kernel_rfl) (by kernel_rfl) (by decide) rfl ?_)
 refine TP (by rw [q9 g2]; rfl) (qP (qI g2) ?_)
 rw [q9 g2]
 refine spliced_cons ?_
 refine Qv H X k2 k3 ht hm3 P fun a h₁ tk₁ ρ₁ p μ₁ x1 S1 ra ht1 hm1 P1 => ?_
 obtain ⟨m, h1, hm2⟩ := bnd hm1
 obtain ⟨dl, hdl, hm3⟩ := bnd hm2
 obtain ⟨hall, hm4⟩ := ifT hm3
 obtain ⟨d, e, hn⟩ := ra.lI h1
 obtain ⟨kvs, D, hr⟩ := S1.dictAt hn hdl
 have hk := qg h₁ { cls := .type "dict_items", data := .fields #[.ref d] }
 exact ⟨d, kvs, e, D, beq_eq_false_iff_ne.mpr (RZ (S1.low.2 d (Rr hn))), Ta (Z6 (s := { s with heap := h₁.push { cls := .type "dict_items", data := .fields #[.ref d] }, toks := tk₁ }) X.rm.1 (S1.keeps hk) hn hdl hall (by simpa using (zI hm4).1) ⟨_, Rg _ rfl, rfl, rfl⟩ ht1 _ _ hm4 Q E (P1.le (tk := tk₁) (Le.of_keeps hk)))⟩
theorem ZS {f : Str} {fp : Pos} {v : Pu} (G : GF w hT) (X : Act w hT A l env σ ρ μ s.heap n) (g1 : σ.isG f = true) (hk : (nsIn (KK w) mainGlobals f == some none && Ub f == some v && !(f == ("__name__" : Str)) && !(f == ("__debug__" : Str))) = true) {Q : Pu -> Py -> Prop} {E : Pu -> Py -> Prop} (hq : Q v s) : PQ (MM w) A (eval (.Name f fp) env) Q E s :=
 have h3 := an hk
 have h2 := an h3.1
 have h1 := an h2.1
 zN G X.er X.sr g1 (eq_of_beq h1.1) (eq_of_beq h1.2) (fun e => beq_eq_false_iff_ne.mp (nt h2.2) e) (nt h3.2) hq
theorem MF {f : Str} {fp pos : Pos} {args : List Expr} {g : PV -> PM PV} (G : GF w hT) (H : j4 w hT r n) (HC : jR w hT r n) (X : Act w hT A l env σ ρ μ s.heap (n + 1)) (g1 : σ.isG f = true) (g2 : args.all (!qf ·) = true) (hg : pB1 r f = some g) :
 Sim w hT A (Rv hT) ρ s (eval (.Call (.Name f fp) args [] pos) env) (qa (evL r σ args μ) fun vs μ => (one vs).bind fun v => g v μ) := by
 have bi : ∀ {f : Str} {id : String} {g : PV -> PM PV}, σ.isG f = true -> (nsIn (KK w) mainGlobals f == some none && Ub f == some (.builtin id) && !(f == ("__name__" : Str)) && !(f == ("__debug__" : Str))) = true -> (∀ {ρ₁ μ₁ s₁ v p}, SR w hT ρ₁ μ₁ s₁.heap -> Rv hT ρ₁ s₁.heap v p -> Sim w hT A (Rv hT) ρ₁ s₁ (call (.builtin id) [v]) (g p μ₁)) ->
  Sim w hT A (Rv hT) ρ s (eval (.Call (.Name f fp) args [] pos) env) (qa (evL r σ args μ) fun vs μ => (one vs).bind fun v => g v μ) := fun h1 h2 h3 => CT H X.down g2 (ZS G X h1 h2) fun zz zz zz zz zz X₁ rv => h3 X₁.sr rv
 have ty : ∀ {f : Str} {T : String} {g : PV -> PM PV}, σ.isG f = true -> (nsIn (KK w) mainGlobals f == some none && Ub f == some (.type T) && !(f == ("__name__" : Str)) && !(f == ("__debug__" : Str))) = true -> (∀ {ρ₁ μ₁ s₁ v p}, Act w hT A l env σ ρ₁ μ₁ s₁.heap n -> Rv hT ρ₁ s₁.heap v p -> Sim w hT A (Rv hT) ρ₁ s₁ (call (.type T) [v]) (g p μ₁)) ->
  Sim w hT A (Rv hT) ρ s (eval (.Call (.Name f fp) args [] pos) env) (qa (evL r σ args μ) fun vs μ => (one vs).bind fun v => g v μ) := fun h1 h2 h3 => Ch H X.down g2 (ZS G X h1 h2) fun zz zz zz zz zz X₁ rv => h3 X₁ rv
 unfold pB1 at hg
 cases h1 : (f == ("len" : Str)) with
 | true => rw [h1] at hg; rw [qb h1] at g1 ⊢; exact qk hg ▸ bi (id := "len") g1 (by kernel_rfl) Cz
 | false =>
 rw [h1] at hg
 cases h2 : (f == ("type" : Str)) with
 | true => rw [h2] at hg; rw [qb h2] at g1 ⊢; exact qk hg ▸ ty (T := "type") g1 (by kernel_rfl) fun X₁ => Gd X₁.sr
 | false =>
 rw [h2] at hg
 cases h3 : (f == ("ord" : Str)) with
 | true => rw [h3] at hg; rw [qb h3] at g1 ⊢; exact qk hg ▸ bi (id := "ord") g1 (by kernel_rfl) De
 | false =>
 rw [h3] at hg
 cases h4 : (f == ("chr" : Str)) with
 | true => rw [h4] at hg; rw [qb h4] at g1 ⊢; exact qk hg ▸ bi (id := "chr") g1 (by kernel_rfl) Eg
 | false =>
 rw [h4] at hg
 obtain ⟨h5, hg⟩ := ifT hg
 rw [qb h5] at g1 ⊢
 exact qk hg ▸ ty (T := "str") g1 (by kernel_rfl) fun X₁ rv => F9 G HC (n := n) ⟨X₁.sr, X₁.er, X₁.sk, X.rm⟩ rv
theorem Gc {f : Str} {fp pos : Pos} {args : List Expr} (G : GF w hT) (H : j4 w hT r n) (HC : jR w hT r n) (X : Act w hT A l env σ ρ μ s.heap (n + 1)) :
 Sim w hT A (Rv hT) ρ s (eval (.Call (.Name f fp) args [] pos) env) (JX r σ f args μ) := by
 intro ht r' μ' hm Q E P
 obtain ⟨hg, hm1⟩ := ifT hm
 have g1 := (an (an hg).1).1
 have g2 := (an (an hg).1).2
 clear hm hg
 induction ha : fns.lookup f with
 | some a => rw [ha] at hm1; exact NP G H HC X.down g1 g2 ha ht _ _ hm1 Q E P
 | none =>
   rw [ha] at hm1
   dsimp only at hm1
   cases h1 : (f == ("Headers" : Str)) with
   | true => rw [h1] at hm1; have e := qb h1; subst e; exact XS G H HC X g1 g2 ht _ _ hm1 Q E P
   | false =>
     rw [h1] at hm1
     cases h2 : (f == ("list" : Str)) with
     | true => rw [h2] at hm1; have e := qb h2; subst e; exact DG G H X.down g1 g2 ht _ _ hm1 Q E P
     | false =>
       rw [h2] at hm1
       exact bK (o := pB1 r f) hm1 fun g hg hm2 => MF G H HC X g1 g2 hg ht _ _ hm2 Q E P
end
theorem j2 (l : Loc) (x : Str) (p : PV) (y : Str) : (upd l x p).lookup y = if y = x then some p else l.lookup y := by
 induction l with
 | nil =>
   unfold upd
   rw [Ry]
   by_cases h : y = x
   ·subst h; simp
   ·have : (y == x) = false := beq_eq_false_iff_ne.mpr h
    rw [this, if_neg h]
 | cons q l ih =>
   obtain ⟨z, v⟩ := q
   unfold upd
   induction hz : (z == x) with
   | true =>
     have := eq_of_beq hz
     subst this
     simp only [if_true, Ry]
     by_cases h : y = z
     ·subst h; simp
     ·have h' : (y == z) = false := beq_eq_false_iff_ne.mpr h
      rw [if_neg h, h']
   | false =>
     have hne : z ≠ x := beq_eq_false_iff_ne.mp hz
     simp only [R7, if_false, Ry]
     by_cases h : y = z
     ·subst h; simp [hne]
     ·have h' : (y == z) = false := beq_eq_false_iff_ne.mpr h
      rw [h', ih]
section
variable {w : Rk} {hT : PP} {A : RE} {l : List Env} {ρ ρ' ρ₀ : List PE} {μ μ₁ μ' : q4} {s : Py} {n : Nat} {env : Env} {outer : List Env} {σ σ' : LE} {h h' h₀ : PP} {r : Ev}
def KB (own : List PE) (h h' : PP) : Prop := ∀ b o, b ∉ own -> h.get? b = some o -> h'.get? b = some o
theorem KB.of {own : List PE} (k : ∀ b o, h.get? b = some o -> h'.get? b = some o) : KB own h h' := fun b o zz => k b o
theorem KB.trans {own : List PE} {h'' : PP} (x : KB own h h') (y : KB own h' h'') : KB own h h'' := fun b o hb e => y b o hb (x b o hb e)
theorem KB.mono {own own' : List PE} (x : KB own h h') (hs : ∀ b ∈ own, b ∈ own') : KB own' h h' := fun b o hb e => x b o (fun q => hb (hs b q)) e
theorem KB.same {a : PE} (x : RK a h h') : KB [a] h h' := fun b o hb e => (x.2 b (by simpa using hb)).trans e
theorem KB.ext {a : PE} (x : PP.ExtBut a h h') : KB [a] h h' := fun b o hb e => x b o (by simpa using hb) e
def NT (own : List PE) (h : PP) : Prop := ∀ b ∈ own, ∀ o, h.get? b = some o -> ¬ (o.cls = .type "tuple" /\ ∃ vs n, o.data = .seq vs n)
theorem KB.kv {own : List PE} (k : KB own h h') (t : NT own h) : Kv h h' := fun b o e hc => ⟨o.slots, k b o (fun hb => t b hb o e hc) e⟩
def Ng (hT : PP) (ρ own : List PE) : Prop := ∀ b ∈ own, b ∉ ρ /\ hT.get? b = none
theorem SR.kb {own : List PE} (S : SR w hT ρ μ h) (f : Ng hT ρ own) (k : KB own h h') (t : NT own h) : SR w hT ρ μ h' := by
 have kv := k.kv t
 have hx : ∃ more, ρ = ρ ++ more := ⟨[], by simp⟩
 have cell : ∀ a ∈ ρ, ∀ o, h.get? a = some o -> h'.get? a = some o := fun a ha o ho => k a o (fun q => (f a q).1 ha) ho
 refine ⟨fun b o e => k b o (fun q => by rw [(f b q).2] at e; exact nomatch e) (S.top b o e), S.nodup, S.len, S.notop, S.low, fun m b d h1 h2 => ?_⟩
 have hb : b ∈ ρ := Rr h1
 have x := S.cells m b d h1 h2
 induction d with
 | list l =>
   obtain ⟨hl, vs, ⟨k, hp⟩, hv⟩ := x
   exact ⟨hl, vs, ⟨k, cell b hb _ hp⟩, hv.mono hx kv⟩
 | dict l =>
   obtain ⟨kvs, ⟨o, es, ep, ho, r⟩, hv⟩ := x
   exact ⟨kvs, ⟨o, es, ep, cell b hb _ ho, r⟩, hv.mono hx kv⟩
 | inst d =>
   obtain ⟨y, hy, ho⟩ := x
   exact ⟨y, hy, cell b hb _ ho⟩
 | kw l =>
   obtain ⟨kvs, ⟨o, es, ho, r⟩, hv⟩ := x
   exact ⟨kvs, ⟨o, es, cell b hb _ ho, r⟩, hv.mono hx kv⟩
theorem Le.kb {own : List PE} (k : KB own h h') (st : ∀ b ∈ own, ∃ o, h'.get? b = some o) : Le own ρ h ρ h' :=
 ⟨⟨[], by simp, by simp⟩, fun b o e zz hb => ⟨o.slots, k b o hb e⟩, fun b o e => by
   by_cases hb : b ∈ own
   ·exact st b hb
   ·exact ⟨o, k b o hb e⟩, fun b o e zz hb zz => k b o hb e⟩
theorem Le.fin {own own' : List PE} (x : Le (own ++ own') ρ₀ h₀ ρ h) (f : ∀ b ∈ own, h₀.get? b = none) (k : KB own h h') : Le own' ρ₀ h₀ ρ h' := by
 have nown : ∀ b o, h₀.get? b = some o -> b ∉ own := fun b o e q => by rw [f b q] at e; cases e
 have nn : ∀ b o, h₀.get? b = some o -> b ∉ own' -> b ∉ own ++ own' := fun b o e q z => by
  rcases PU.mp z with z | z
  ·exact nown b o e z
  ·exact q z
 refine ⟨x.ext, fun b o e hn ho => ?_, fun b o e => ?_, fun b o e hn ho hd => ?_⟩
 ·obtain ⟨sl, hs⟩ := x.kp b o e hn (nn b o e ho)
  exact ⟨sl, k b _ (nown b o e) hs⟩
 ·obtain ⟨o', ho'⟩ := x.st b o e
  exact ⟨o', k b _ (nown b o e) ho'⟩
 ·exact k b _ (nown b o e) (x.ex b o e hn (nn b o e ho) hd)
theorem qN.nt (R : qN hT ρ h env σ) : NT (qy env) h := fun b hb o e hc => by
 obtain ⟨_, vs, n, q⟩ := hc
 rcases R.ownOK b hb o e with ⟨es, ep, hd⟩ | ⟨v, hd⟩ <;> (rw [hd] at q; cases q)
theorem qN.there (R : qN hT ρ h env σ) : ∀ b ∈ qy env, ∃ o, h.get? b = some o := fun b hb => by
 rcases Rq.mp hb with rfl | hb
 ·obtain ⟨m, ⟨o', es, ep, ho', hd, _⟩, _⟩ := R.ns
  exact ⟨_, ho'⟩
 ·obtain ⟨q, hq, rfl⟩ := Ri.mp hb
  obtain ⟨_, _, v, o', ho', hd⟩ := R.cells q hq
  exact ⟨_, ho'⟩
theorem qN.kb {own : List PE} (R : qN hT ρ h env σ) (k : KB own h h') (t : NT own h) (a : ∀ b ∈ own, b ∉ qy env) : qN hT ρ h' env σ := by
 have kv := k.kv t
 have hx : ∃ more, ρ = ρ ++ more := ⟨[], by simp⟩
 obtain ⟨m, ⟨o, es, ep, ho, hd, r⟩, hv⟩ := R.ns
 have cell : ∀ q ∈ env.cells, ∀ {v}, h.IsCell q.2 v -> h'.IsCell q.2 v := fun q hq v x => by
  obtain ⟨o, ho, hd⟩ := x
  exact ⟨o, k _ _ (fun z => a _ z (.tail _ (RS hq))) ho, hd⟩
 refine ⟨R.kind, R.names, R.glob, R.blt, R.loc, ⟨m, ⟨o, es, ep, k _ _ (fun z => a _ z (.head _)) ho, hd, r⟩, fun y p hy hk => ?_⟩, fun y p hy hk => ?_, fun q hq => ?_, R.sep, R.has⟩
 ·obtain ⟨v, h1, h2⟩ := hv y p hy hk
  exact ⟨v, h1, h2.mono hx kv⟩
 ·obtain ⟨c, v, hc, hi, hr⟩ := R.cel y p hy hk
  exact ⟨c, v, hc, cell (y, c) (mem_of_lookup hc) hi, hr.mono hx kv⟩
 ·obtain ⟨h1, h2, v, h3⟩ := R.cells q hq
  exact ⟨h1, h2, v, cell q hq h3⟩
theorem Kb {x : Str} {p : PV} {v : Pu} {m : Str -> Option Pu} (S : SR w hT ρ μ h) (R : qN hT ρ h env σ) (hl : σ.sc.lookup x = some .local) (rv : Rv hT ρ h v p) (hT0 : hT.get? env.locals = none)
 (hm : ∀ y q, σ.vs.lookup y = some q -> σ.sc.lookup y = some .local -> ∃ v, m y = some v /\ Rv hT ρ h v q)
 (hn : h'.Ns env.locals (fun z => if z = x then some v else m z)) (hs : RK env.locals h h') : Le [env.locals] ρ h ρ h' /\ SR w hT ρ μ h' /\ qN hT ρ h' env { σ with vs := upd σ.vs x p } := by
 have kb := KB.same hs
 have nt : NT [env.locals] h := fun b hb o e => R.nt b (by rw [Pw.mp hb]; exact .head _) o e
 have kv := kb.kv nt
 have hx : ∃ more, ρ = ρ ++ more := ⟨[], by simp⟩
 obtain ⟨o, es, ep, ho, hd, r⟩ := id hn
 refine ⟨Le.kb kb fun b hb => ?_, S.kb (fun b hb => ?_) kb nt, ?_⟩
 ·rw [Pw.mp hb]; exact ⟨o, ho⟩
 ·rw [Pw.mp hb]; exact ⟨R.loc, hT0⟩
 ·have cell : ∀ q ∈ env.cells, ∀ {v}, h.IsCell q.2 v -> h'.IsCell q.2 v := fun q hq v x => by
   obtain ⟨o, ho, hd⟩ := x
   exact ⟨o, (hs.2 _ (R.cells q hq).2.1).trans ho, hd⟩
  refine ⟨R.kind, R.names, R.glob, R.blt, R.loc, ⟨_, hn, fun y q hy hk => ?_⟩, fun y q hy hk => ?_, fun q hq => ?_, R.sep, R.has⟩
  ·simp only at hy
   rw [j2] at hy
   by_cases e : y = x
   ·rw [if_pos e] at hy ⊢
    cases hy
    exact ⟨v, rfl, rv.mono hx kv⟩
   ·rw [if_neg e] at hy ⊢
    obtain ⟨v', h1, h2⟩ := hm y q hy hk
    exact ⟨v', h1, h2.mono hx kv⟩
  ·simp only at hy
   rw [j2] at hy
   by_cases e : y = x
   ·subst e; rw [hl] at hk; cases hk
   ·rw [if_neg e] at hy
    obtain ⟨c, v', hc, hi, hr⟩ := R.cel y q hy hk
    exact ⟨c, v', hc, cell (y, c) (mem_of_lookup hc) hi, hr.mono hx kv⟩
  ·obtain ⟨h1, h2, v', h3⟩ := R.cells q hq
   exact ⟨h1, h2, v', cell q hq h3⟩
theorem GK {x : Str} {p : PV} {v : Pu} {c : PE} (S : SR w hT ρ μ h) (R : qN hT ρ h env σ) (hl : σ.sc.lookup x = some .cell) (rv : Rv hT ρ h v p) (hT0 : hT.get? c = none) (hc : env.cells.lookup x = some c)
 (hn : h'.IsCell c (some v)) (hs : RK c h h') : Le [c] ρ h ρ h' /\ SR w hT ρ μ h' /\ qN hT ρ h' env { σ with vs := upd σ.vs x p } := by
 have hcm := mem_of_lookup hc
 have hco : c ∈ qy env := .tail _ (RS (f := (·.2)) hcm)
 have kb := KB.same hs
 have nt : NT [c] h := fun b hb o e => R.nt b (by rw [Pw.mp hb]; exact hco) o e
 have kv := kb.kv nt
 have hx : ∃ more, ρ = ρ ++ more := ⟨[], by simp⟩
 obtain ⟨o, ho, hd⟩ := id hn
 refine ⟨Le.kb kb fun b hb => ?_, S.kb (fun b hb => ?_) kb nt, ?_⟩
 ·rw [Pw.mp hb]; exact ⟨o, ho⟩
 ·rw [Pw.mp hb]; exact ⟨R.out hco, hT0⟩
 ·obtain ⟨m, ⟨o1, es, ep, ho1, r1⟩, hv⟩ := R.ns
  refine ⟨R.kind, R.names, R.glob, R.blt, R.loc, ⟨m, ⟨o1, es, ep, (hs.2 _ (SO (R.cells _ hcm).2.1)).trans ho1, r1⟩, fun y q hy hk => ?_⟩, fun y q hy hk => ?_, fun q hq => ?_, R.sep, R.has⟩
  ·simp only at hy
   rw [j2] at hy
   by_cases e : y = x
   ·subst e; rw [hl] at hk; cases hk
   ·rw [if_neg e] at hy
    obtain ⟨v', h1, h2⟩ := hv y q hy hk
    exact ⟨v', h1, h2.mono hx kv⟩
  ·simp only at hy
   rw [j2] at hy
   by_cases e : y = x
   ·subst e
    rw [if_pos rfl] at hy
    cases hy
    exact ⟨c, v, hc, hn, rv.mono hx kv⟩
   ·rw [if_neg e] at hy
    obtain ⟨c', v', hc', hi, hr⟩ := R.cel y q hy hk
    have hne : c' ≠ c := fun z => e (R.sep _ (mem_of_lookup hc') _ hcm z)
    obtain ⟨o2, ho2, hd2⟩ := hi
    exact ⟨c', v', hc', ⟨o2, (hs.2 _ hne).trans ho2, hd2⟩, hr.mono hx kv⟩
  ·obtain ⟨h1, h2, v', o3, ho3, hd3⟩ := R.cells q hq
   by_cases e : q.2 = c
   ·exact ⟨h1, h2, some v, e ▸ hn⟩
   ·exact ⟨h1, h2, v', o3, (hs.2 _ e).trans ho3, hd3⟩
def QN (env : Env) (own : List PE) (x : Str) : Prop := ∀ c, env.cells.lookup x = some c -> c ∈ own
theorem xC {own : List PE} {x : Str} {p : PV} {v : Pu} {Q : Unit -> Py -> Prop} {E : Pu -> Py -> Prop} (ht : 1 <= s.toks) (S : SR w hT ρ μ s.heap) (R : qN hT ρ s.heap env σ) (rv : Rv hT ρ s.heap v p) (hp : σ.put x p = some σ') (hnt : ∀ b ∈ own, hT.get? b = none)
 (ho : env.locals ∈ own) (hx : QN env own x)
 (k : ∀ h' tk, Le own ρ s.heap ρ h' -> SR w hT ρ μ h' -> qN hT ρ h' env σ' -> 1 <= tk -> Q () { s with heap := h', toks := tk }) : PQ (MM w) A (storeName env x v) Q E s := by
 have hkf := R.kindOf (s := s) x
 have weak : ∀ {a : PE} {h' : PP}, a ∈ own -> Le [a] ρ s.heap ρ h' -> Le own ρ s.heap ρ h' := fun ha x => x.weaken fun b zz zz q => by rw [Pw.mp q]; exact ha
 obtain ⟨hs, hp1⟩ := ifT hp
 have e := qk hp1
 subst e
 rcases xt hs with hs | hs
 ·obtain ⟨m, hm, hv⟩ := R.ns
  refine wpAny_storeName_local (hkf.trans hs) hm (fun h' hn hsb => ?_) (by rw [R.kind]; rfl)
  have z := Kb S R hs rv (hnt _ ho) hv hn hsb
  exact k h' (s.toks + 1) (weak ho z.1) z.2.1 z.2.2 (Ru ht)
 ·obtain ⟨c, hc⟩ := R.has x hs
  obtain ⟨_, _, v₀, hv₀⟩ := R.cells _ (mem_of_lookup hc)
  refine wpAny_storeName_cell R.kind (hkf.trans hs) hc hv₀ fun h' hn hsb => ?_
  have z := GK S R hs rv (hnt _ (hx c hc)) hc hn hsb
  exact k h' s.toks (weak (hx c hc) z.1) z.2.1 z.2.2 ht
theorem qN.ownOf {own : List PE} (R : qN hT ρ h env σ) (hsub : ∀ b ∈ own, b ∈ qy env) : gB own h := fun b hb o e => R.ownOK b (hsub b hb) o e
theorem QU {t : Expr} {ts : List Expr} {ps : List PV} (h : vJ σ (t :: ts) ps = some σ') : ∃ x px p ps' σ₁, t = .Name x px /\ ps = p :: ps' /\ σ.put x p = some σ₁ /\ vJ σ₁ ts ps' = some σ' := by
 induction ps using PD with
 | nil => exact no h
 | cons p ps =>
   obtain ⟨x, hx, h⟩ := bnd h
   obtain ⟨σ₁, h1, h⟩ := bnd h
   obtain ⟨px, hx⟩ := ja hx
   exact ⟨x, px, p, ps, σ₁, hx, rfl, h1, h⟩
theorem Xv {ps : List PV} (h : vJ σ [] ps = some σ') : ps = [] /\ σ' = σ := ⟨Rf.mp (ifT h).1, (qk (ifT h).2).symm⟩
theorem Fm {own : List PE} {Q : Unit -> Py -> Prop} {E : Pu -> Py -> Prop} (hnt : ∀ b ∈ own, hT.get? b = none) (hsub : ∀ b ∈ own, b ∈ qy env) (ho : env.locals ∈ own) (ts : List Expr) : ∀ {vs : List Pu} {ps : List PV} {σ : LE} {s : Py}, vJ σ ts ps = some σ' -> 1 <= s.toks -> SR w hT ρ μ s.heap -> qN hT ρ s.heap env σ -> RvL hT ρ s.heap vs ps ->
 (∀ x ∈ ts.filterMap qW, QN env own x) ->
 (∀ h' tk, Le own ρ s.heap ρ h' -> SR w hT ρ μ h' -> qN hT ρ h' env σ' -> 1 <= tk -> Q () { s with heap := h', toks := tk }) -> PQ (MM w) A (assignInOrder ((Tx ts env).map (·.2)) vs) Q E s := by
 induction ts with
 | nil =>
   intro vs ps σ s hgo ht S R rvs _ k
   obtain ⟨e1, e2⟩ := Xv hgo
   subst e1 e2
   cases rvs
   exact wpAny_pure (k s.heap s.toks (Le.refl _ _ _) S R ht)
 | cons t ts ih =>
   intro vs ps σ s hgo ht S R rvs hx k
   obtain ⟨x, px, p, ps', σ₁, e1, e2, hp, hgo'⟩ := QU hgo
   clear hgo
   subst e1 e2
   cases rvs with | @cons v _ vs _ rv rvs =>
   show PQ (MM w) A (assignInOrder ((fun v => A3 (.Name x px) env v) :: (Tx ts env).map (·.2)) (v :: vs)) Q E s
   refine UH (Ts (xC ht S R rv hp hnt ho (hx x (.head _)) fun h' tk x1 S1 R1 ht1 => ?_))
   exact ih (s := { s with heap := h', toks := tk }) hgo' ht1 S1 R1 (rvs.mono ⟨[], (PS _).symm⟩ (S.kv (R.ownOf hsub) x1)) (fun y hy => hx y (.tail _ hy)) fun h'' tk' x2 S2 R2 ht2 => k h'' tk' (x1.trans x2) S2 R2 ht2
theorem gA (ts : List Expr) : ∀ {ps : List PV} {σ : LE}, vJ σ ts ps = some σ' -> (Tx ts env).length = ps.length /\ (Tx ts env).findIdx? (·.1) = none := by
 induction ts with
 | nil => intro ps σ h; rw [(Xv h).1]; exact ⟨rfl, rfl⟩
 | cons t ts ih =>
   intro ps σ h
   obtain ⟨x, px, p, ps', σ₁, e1, e2, hp, hgo'⟩ := QU h
   rw [e1, e2]
   refine ⟨congrArg (· + 1) (ih hgo').1, ?_⟩
   show ((false, A3 (.Name x px) env) :: Tx ts env).findIdx? (·.1) = none
   rw [aX, (ih hgo').2]; rfl
theorem w7 {own : List PE} {target : Expr} {v : Pu} {p : PV} {Q : Unit -> Py -> Prop} {E : Pu -> Py -> Prop} (hb : qu σ target p = some σ') (hh : A.handled = none) (ht : 1 <= s.toks) (S : SR w hT ρ μ s.heap) (R : qN hT ρ s.heap env σ) (rv : Rv hT ρ s.heap v p) (hnt : ∀ b ∈ own, hT.get? b = none)
 (hsub : ∀ b ∈ own, b ∈ qy env) (ho : env.locals ∈ own) (hx : ∀ x ∈ vP target, QN env own x)
 (k : ∀ h' tk, Le own ρ s.heap ρ h' -> SR w hT ρ μ h' -> qN hT ρ h' env σ' -> 1 <= tk -> Q () { s with heap := h', toks := tk }) : PQ (MM w) A (A3 target env v) Q E s := by
 induction target using PC with
 | Name x px => exact Ts (xC ht S R rv hb hnt ho (hx x (.head _)) k)
 | Tuple ts c pos =>
   obtain ⟨l, h1, hb⟩ := bnd hb
   obtain ⟨a, vs, e, hq, hl⟩ := rv.tI h1
   obtain ⟨e1, e2⟩ := gA (env := env) ts hb
   subst e
   refine wpAny_assign_Tuple hh hq (by rw [e1]; simp [hl.length]) e2 fun h' he => ?_
   have keep : ∀ b o, s.heap.get? b = some o -> h'.get? b = some o := fun b o e => he b o (RQ (RJ e)) e
   exact Fm hnt hsub ho ts (s := { s with heap := h' }) hb ht (S.keeps keep) (R.kb (own := []) (KB.of keep) (fun zz q => nomatch q) (fun zz q => nomatch q)) (hl.mono ⟨[], (PS _).symm⟩ (Kv.of_keeps keep)) hx fun h'' tk x1 S1 R1 ht1 => k h'' tk ((Le.of_keeps keep : Le own ρ s.heap ρ h').trans x1) S1 R1 ht1
 | _ => exact no hb
def zd (ρ : List PE) (h : PP) (own : List PE) : Src -> Nat -> PE -> Prop
 | .list n, i, I => own = [I] /\ ∃ a, ρ[n]? = some a /\ h.IsListIter I a i
 | .str x, i, I => own = [I] /\ ∃ t, h.IsStrIter I (U6 x) x t i
 | .enum n, i, I => ∃ J a old, own = [I, J] /\ I ≠ J /\ ρ[n]? = some a /\ IsEnum h I J i old /\ h.IsListIter J a i
theorem zd.nt {own : List PE} {src : Src} {i : Nat} {I : PE} (x : zd ρ h own src i I) : NT own h := by
 intro b hb o e hc
 obtain ⟨hc, _⟩ := hc
 induction src with
 | list n =>
   obtain ⟨rfl, a, _, o', ho', hc', _⟩ := x
   rw [Pw.mp hb, ho'] at e; cases e
   rw [hc'] at hc; simp at hc
 | str x =>
   obtain ⟨rfl, t, o', ho', hc', _⟩ := x
   rw [Pw.mp hb, ho'] at e; cases e
   rw [hc'] at hc
   unfold U6 at hc
   split at hc <;> simp at hc
 | enum n =>
   obtain ⟨J, a, old, rfl, _, _, he, o', ho', hc', _⟩ := x
   rcases Rq.mp hb with rfl | hb
   ·have he' : h.get? b = _ := he
    rw [he'] at e; cases e; simp at hc
   ·rw [Pw.mp hb, ho'] at e; cases e
    rw [hc'] at hc; simp at hc
theorem zd.there {own : List PE} {src : Src} {i : Nat} {I : PE} (x : zd ρ h own src i I) : ∀ b ∈ own, ∃ o, h.get? b = some o := by
 intro b hb
 induction src with
 | list n =>
   obtain ⟨rfl, a, _, o', ho', _⟩ := x
   rw [Pw.mp hb]; exact ⟨_, ho'⟩
 | str x =>
   obtain ⟨rfl, t, o', ho', _⟩ := x
   rw [Pw.mp hb]; exact ⟨_, ho'⟩
 | enum n =>
   obtain ⟨J, a, old, rfl, _, _, he, o', ho', _⟩ := x
   rcases Rq.mp hb with rfl | hb
   ·exact ⟨_, he⟩
   ·rw [Pw.mp hb]; exact ⟨_, ho'⟩
theorem zd.keep {own : List PE} {src : Src} {i : Nat} {I : PE} (x : zd ρ h own src i I) (hx : ∃ more, ρ' = ρ ++ more) (k : ∀ b ∈ own, ∀ o, h.get? b = some o -> (∀ es ep, o.data ≠ .dict es ep) -> h'.get? b = some o) : zd ρ' h' own src i I := by
 induction src with
 | list n =>
   obtain ⟨rfl, a, hn, o', ho', hc, hd⟩ := x
   exact ⟨rfl, a, jn hx hn, o', k I (.head _) o' ho' (fun es ep q => by rw [hd] at q; cases q), hc, hd⟩
 | str x =>
   obtain ⟨rfl, t, o', ho', hc, hd⟩ := x
   exact ⟨rfl, t, o', k I (.head _) o' ho' (fun es ep q => by rw [hd] at q; cases q), hc, hd⟩
 | enum n =>
   obtain ⟨J, a, old, rfl, hne, hn, he, o', ho', hc, hd⟩ := x
   exact ⟨J, a, old, rfl, hne, jn hx hn, k I (.head _) _ he (fun es ep q => by cases q), o', k J (.tail _ (.head _)) o' ho' (fun es ep q => by rw [hd] at q; cases q), hc, hd⟩
theorem zd.le {own own' : List PE} {src : Src} {i : Nat} {I : PE} (x : zd ρ h own src i I) (y : Le own' ρ h ρ' h') (f : ∀ b ∈ own, b ∉ ρ /\ b ∉ own') : zd ρ' h' own src i I :=
 x.keep y.pre fun b hb o e hd => y.ex b o e (f b hb).1 (f b hb).2 hd
theorem Yy {target : Expr} {I a : PE} {i : Nat} {v : Pu} {Q : Unit -> Py -> Prop} {E : Pu -> Py -> Prop} (hit : s.heap.IsListIter I a i) (ht : zu target = true \/ ∃ x p, target = .Name x p) (h : Q () s) : PQ (MM w) A (Ut target (.ref I) v) Q E s := by
 rcases ht with ht | ⟨x, p, rfl⟩
 ·obtain ⟨ts, k, p, rfl⟩ := xZ ht
  induction v with
  | ref T => exact wpAny_letOwnedTupleGo_listiter hit h
  | _ => exact wpAny_pure h
 ·exact wpAny_pure h
theorem kA {t : Expr} (h : jC t = true) : zu t = true \/ ∃ x p, t = .Name x p := by
 rcases (Tk _ _).mp h with h | h
 ·exact .inl h
 ·obtain ⟨x, h⟩ := Se.mp h
  exact .inr ⟨x, ja h⟩
set_option tactic.hygienic true in
theorem w8 {own : List PE} {src : Src} {i : Nat} {I : PE} {target : Expr} {res : Option PV} {Q : Option Pu -> Py -> Prop} {E : Pu -> Py -> Prop} (hh : A.handled = none) (hto : jC target = true) (hen : ∀ n, src = .enum n -> zu target = true) (ht : 1 <= s.toks)
 (S : SR w hT ρ μ s.heap) (x : zd ρ s.heap own src i I) (f : ∀ b ∈ own, b ∉ ρ) (hn : xo src i μ = some res)
 (none : res = none -> ∀ h' tk, KB own s.heap h' -> 1 <= tk -> Q none { s with heap := h', toks := tk })
 (item : ∀ p v h' tk, res = some p -> KB own s.heap h' -> Rv hT ρ h' v p -> 1 <= tk ->
   (∀ (Q' : Unit -> Py -> Prop) (E' : Pu -> Py -> Prop), (∀ h'', KB own s.heap h'' -> Rv hT ρ h'' v p -> zd ρ h'' own src (i + 1) I -> Q' () { s with heap := h'', toks := tk }) -> PQ (MM w) A (Ut target (.ref I) v) Q' E' { s with heap := h', toks := tk }) -> Q (some v) { s with heap := h', toks := tk }) :
 PQ (MM w) A (cf (.ref I)) Q E s := by
 have hx0 : ∃ more, ρ = ρ ++ more := ⟨[], by simp⟩
 have nt := x.nt
 induction src with
 | list n =>
   obtain ⟨rfl, a, ha, hit⟩ := x
   obtain ⟨l, hl, rfl⟩ := Sv.mp hn
   obtain ⟨_, vs, hp, hv⟩ := S.listAt ha hl
   have hlv := hv.length
   induction hq : l[i]? with
   | none =>
     have : vs.toArray[i]? = AV := by
      rw [SU] at hq
      simp; lia
     exact Uh hh hit (PlainList.isList hp) this fun h' he => none hq h' s.toks (KB.ext he) ht
   | some p =>
     obtain ⟨v, hv1, hv2⟩ := hv.get hq
     refine Ud hit (PlainList.isList hp) (by simpa using hv1) fun h' hit' hs' => ?_
     have kb := KB.same hs'
     have rv := hv2.mono hx0 (kb.kv nt)
     refine item p v h' s.toks hq kb rv ht fun Q' E' hq' => ?_
     exact Yy (s := { s with heap := h' }) hit' (kA hto) (hq' h' kb rv ⟨rfl, a, ha, hit'⟩)
 | str x =>
   obtain ⟨rfl, t, hit⟩ := x
   cases hn
   unfold U6 at hit
   induction hq : x.cps[i]? with
   | none =>
     have e : ((AV : Option Nat).map fun c => PV.str ⟨#[c]⟩) = AV := rfl
     rw [hq] at none
     split at hit
     ·exact wpAny_pyNext_ascii_end hh hit hq fun h' he => none e h' s.toks (KB.ext he) ht
     ·exact wpAny_pyNext_wide_end hh hit hq fun h' he => none e h' s.toks (KB.ext he) ht
   | some c =>
     rw [hq] at item
     have fin : ∀ h', h'.IsStrIter I (U6 x) x t (i + 1) -> RK I s.heap h' -> Q (some (.str ⟨#[c]⟩ s.toks)) { s with heap := h', toks := s.toks + 1 } := fun h' hit' hs' => by
      have kb := KB.same hs'
      refine item (.str ⟨#[c]⟩) _ h' (s.toks + 1) rfl kb (.str _ _ (by show 1 <= Pr; decide)) (by lia) fun Q' E' hq' => ?_
      have hgo : PQ (MM w) A (Ut target (.ref I) (.str ⟨#[c]⟩ s.toks)) Q' E' { s with heap := h', toks := s.toks + 1 } := by
       have hq2 := hq' h' kb (.str _ _ (by show 1 <= Pr; decide)) ⟨rfl, t, hit'⟩
       rcases kA hto with htt | ⟨y, py, rfl⟩
       ·obtain ⟨ts, k, p, rfl⟩ := xZ htt
        exact wpAny_pure hq2
       ·exact wpAny_pure hq2
      exact hgo
     split at hit
     ·rename_i ha
      exact wpAny_pyNext_ascii_item hit hq fun h' hit' hs' => fin h' (by unfold U6; rw [if_pos ha]; exact hit') hs'
     ·rename_i ha
      exact wpAny_pyNext_wide_item hit hq fun h' hit' hs' => fin h' (by unfold U6; rw [if_neg ha]; exact hit') hs'
 | enum n =>
   obtain ⟨J, a, old, rfl, hne, ha, he, hit⟩ := x
   obtain ⟨l, hl, rfl⟩ := Sv.mp hn
   obtain ⟨_, vs, hp, hv⟩ := S.listAt ha hl
   have hlv := hv.length
   have htt := hen n rfl
   induction hq : l[i]? with
   | none =>
     have : vs.toArray[i]? = AV := by
      rw [SU] at hq
      simp; lia
     exact wpAny_pyNext_enum_end hh he hit (PlainList.isList hp) this fun h' hext => none (by rw [hq]; rfl) h' s.toks ((KB.ext hext).mono fun b hb => .tail _ hb) ht
   | some p =>
     obtain ⟨v, hv1, hv2⟩ := hv.get hq
     refine wpAny_pyNext_enum_item he hit (PlainList.isList hp) (by simpa using hv1) hne fun h' he' hit' ht' hz hk => ?_
     have kb : KB [I, J] s.heap h' := fun b o hb e => by
      simp only [mem_cons, List.not_mem_nil, or_false, not_or] at hb
      exact hk b o hb.1 hb.2 e
     have rv := hv2.mono hx0 (kb.kv nt)
     have rt : Rv hT ρ h' (.ref s.heap.objs.size) (.tup [.int i, p]) := .tup (vs := [.int i s.toks, v]) ⟨_, ht', rfl, 0, rfl⟩ (.cons (.int _ _) (.cons rv .nil))
     refine item (.tup [.int i, p]) _ h' (s.toks + 1) (by rw [hq]; rfl) kb rt (by lia) fun Q' E' hq' => ?_
     obtain ⟨ts, k', p', e⟩ := xZ htt
     subst e
     refine wpAny_letOwnedTupleGo_enum (s := { s with heap := h', toks := s.toks + 1 }) he' fun h'' he'' hs'' => ?_
     have hts : s.heap.objs.size ≠ I := RZ (RJ (show s.heap.get? I = _ from he))
     have hJ : h''.IsListIter J a (i + 1) := hit'.extBut hs''.extBut (SO hne)
     have kb2 : KB [I, J] h' h'' := (KB.same hs'').mono fun b hb => by rw [Pw.mp hb]; exact .head _
     have nt' : NT [I] h' := fun b hb o e hc => by
      rw [Pw.mp hb] at e
      have he2 : h'.get? I = _ := he'
      rw [he2] at e; cases e; have := hc.1; simp at this
     exact hq' h'' (kb.trans kb2) (rt.mono hx0 ((KB.same hs'').kv nt')) ⟨J, a, v, rfl, hne, ha, he'', hJ⟩
theorem zH : ∀ (names : List (Str × Sm)) (k : Nat) (acc : List (Str × PE)), cellsFrom k names acc = cellsFrom k names [] ++ acc
 | [], _, _ => rfl
 | (x, kd) :: r, k, acc => by
   unfold cellsFrom
   split
   ·rw [zH r (k + 1) ((x, k) :: acc), zH r (k + 1) [(x, k)]]
    simp
   ·exact zH r k acc
noncomputable def xU (cells : List (Str × PE)) : List (Str × Sm) -> List (Str × PE) -> List (Str × PE)
 | [], acc => acc
 | (x, k) :: r, acc => if k == .free then xU cells r ((x, (cells.lookup x).getD 0) :: acc) else xU cells r acc
theorem ya : ∀ (names : List (Str × Sm)) (acc : List (Str × PE)), (∀ nk ∈ names, nk.2 = .free -> ∃ c, env.cells.lookup nk.1 = some c) ->
 (ba names acc fun (x : Str × Sm) cs => (if (x.2 == Ul) = true then do let a <- cellOf env x.1; pure (SI ((x.1, a) :: cs)) else pure (SI cs) : Sem (ForInStep (List (Str × PE))))) = pure (xU env.cells names acc)
 | [], _, _ => by rw [T6]; rfl
 | (x, k) :: r, acc, hf => by
   rw [SJ]
   unfold xU
   induction hk : (k == Ul) with
   | true =>
     obtain ⟨c, hc⟩ := hf (x, k) (.head _) (eq_of_beq hk)
     have e : cellOf env x = pure c := by unfold cellOf; rw [hc]
     simp only [hk, if_true, e, bv, hc, Option.getD_some]
     exact ya r _ fun nk hnk => hf nk (.tail _ hnk)
   | false =>
     simp only [hk, R7, if_false, bv]
     exact ya r _ fun nk hnk => hf nk (.tail _ hnk)
theorem Qx {scope : Un} (hf : ∀ nk ∈ scope.names, nk.2 = .free -> ∃ c, env.cells.lookup nk.1 = some c) : cg scope env = pure (xU env.cells scope.names []) := by
 have := ya scope.names [] hf
 unfold cg
 simp only at this ⊢
 rw [show (ba scope.names ([] : List (Str × PE)) fun (x : Str × Sm) cs => _) = _ from this]
 rfl
theorem xQ (cells : List (Str × PE)) : ∀ (names : List (Str × Sm)) (acc : List (Str × PE)), xU cells names acc = xU cells names [] ++ acc
 | [], _ => rfl
 | (x, kd) :: r, acc => by
   unfold xU
   split
   ·rw [xQ cells r ((x, _) :: acc), xQ cells r [(x, _)]]
    simp
   ·exact xQ cells r acc
set_option tactic.hygienic true in
theorem fO (cells : List (Str × PE)) : ∀ (names : List (Str × Sm)) (q : Str × PE), q ∈ xU cells names [] -> (q.1, Ul) ∈ names /\ q.2 = (cells.lookup q.1).getD 0
 | [], _, hq => by simp [xU] at hq
 | (x, kd) :: r, q, hq => by
   unfold xU at hq
   split at hq
   ·rename_i hk
    rw [xQ] at hq
    rcases PU.mp hq with hq | hq
    ·obtain ⟨a, b⟩ := fO cells r q hq
     exact ⟨.tail _ a, b⟩
    ·rw [Pw.mp hq]
     exact ⟨by rw [eq_of_beq hk]; exact .head _, rfl⟩
   ·obtain ⟨a, b⟩ := fO cells r q hq
    exact ⟨.tail _ a, b⟩
theorem Zr (cells : List (Str × PE)) : ∀ (names : List (Str × Sm)) (x : Str), (x, Ul) ∈ names -> (x, (cells.lookup x).getD 0) ∈ xU cells names []
 | [], _, hq => by cases hq
 | (y, kd) :: r, x, hq => by
   unfold xU
   rcases Rq.mp hq with e | hq
   ·cases e
    simp only [beq_self_eq_true, if_true]
    rw [xQ]
    exact Ra _ (.head _)
   ·have ih := Zr cells r x hq
    split
    ·rw [xQ]; exact Ro _ ih
    ·exact ih
theorem fi {α β : Type} (g : Str -> α -> β) : ∀ (l : List (Str × α)) (x : Str), (l.map fun nk => (nk.1, g nk.1 nk.2)).lookup x = (l.lookup x).map (g x)
 | [], _ => rfl
 | (y, k) :: r, x => by
   rw [RO, Ry, Ry]
   induction h : (x == y) with
   | true => have := eq_of_beq h; subst this; rfl
   | false => exact fi g r x
theorem wA {α : Type} : ∀ (l m : List (Str × α)) (x : Str), (l ++ m).lookup x = (l.lookup x).orElse fun zz => m.lookup x
 | [], _, _ => rfl
 | (y, k) :: r, m, x => by
   rw [AW, Ry, Ry]
   induction h : (x == y) with
   | true => rfl
   | false => exact wA r m x
theorem yF {α : Type} : ∀ {l : List (Str × α)} {x : Str}, x ∉ l.map (·.1) -> l.lookup x = none
 | [], _, _ => rfl
 | (y, k) :: r, x, hn => by
   simp only [RO, mem_cons, not_or] at hn
   rw [Ry, beq_eq_false_iff_ne.mpr hn.1]
   exact yF hn.2
theorem Zy {M : U9} {scope : Un} {cl : List (Str × PE)} {Q : Env -> Py -> Prop} {E : Pu -> Py -> Prop}
 (hQ : Q { scope := scope, locals := s.heap.objs.size, globals := env.globals, cells := cellsFrom (s.heap.objs.size + 1) scope.names [] ++ cl, qual := env.qual, func := none, code := env.code, frame := env.frame, builtins := env.builtins }
   { s with heap := bx (s.heap.push { cls := .type "dict", data := .dict #[] }) scope.names }) :
 PQ M A (newFunctionEnv scope env.globals cl [] env.qual none .none (some env)) Q E s := by
 simp only [newFunctionEnv, Option.isSome_some, if_true]
 refine wpAny_bind (AT ?_)
 refine wpAny_bind (wpAny_layCells _ (fun name kind cells => by cases hkc : kind == aH <;> simp [hkc]) _ _ _ _ ?_)
 rw [show ({ s with heap := s.heap.push { cls := .type "dict", data := .dict #[] } } : Py).heap.objs.size = s.heap.objs.size + 1 from SL ..]
 rw [T6]
 rw [zH]
 exact wpAny_bind (wpAny_pure (wpAny_pure hQ))
structure JN (σ : LE) (sc : Un) : Prop where
 kind : sc.kind = .function
 nd : (sc.names.map (·.1)).Nodup
 fr : ∀ nk ∈ sc.names, nk.2 = .free -> σ.sc.lookup nk.1 = some .cell
theorem JN.of {sc : Un} (h : vO σ sc = true) : JN σ sc := by
 unfold vO at h
 simp only [Rl, beq_iff_eq, decide_eq_true_eq, PT, Tk, S8, beq_eq_false_iff_ne] at h
 exact ⟨h.1.1, h.1.2, fun nk hn hk => (h.2 nk hn).resolve_left fun q => q hk⟩
noncomputable def Q2 (scope : Un) (env : Env) (C : PE) : Env :=
 { scope := relabel scope env, locals := C, globals := env.globals, cells := cellsFrom (C + 1) scope.names [] ++ xU env.cells scope.names [], qual := env.qual, func := none, code := env.code, frame := env.frame, builtins := env.builtins }
noncomputable def Qn (scope : Un) (C : PE) : List PE := C :: (cellsFrom (C + 1) scope.names []).map (·.2)
set_option tactic.hygienic true in
theorem Fs {scope : Un} (R : qN hT ρ h env σ) (S : SR w hT ρ μ h) (K : JN σ scope) :
 let h' := bx (h.push { cls := .type "dict", data := .dict #[] }) scope.names
 let cenv := Q2 scope env h.objs.size
 (∀ b o, h.get? b = some o -> h'.get? b = some o) /\ (∀ b ∈ Qn scope h.objs.size, h.objs.size <= b /\ b ∈ qy cenv) /\ qN hT ρ h' cenv (σ.comp scope.names) /\
 (∀ x, scope.names.lookup x ≠ some .free -> QN cenv (Qn scope h.objs.size) x) /\ (∀ b ∈ qy cenv, b ∈ Qn scope h.objs.size \/ ∃ q ∈ env.cells, q.2 = b) := by
 intro h' cenv
 have keep : ∀ b o, h.get? b = some o -> h'.get? b = some o := fun b o e => Aw _ _ b o (qg _ _ _ _ e)
 have ok : CellsOk h' (h.objs.size + 1) (cellsFrom (h.objs.size + 1) scope.names []) := by
  have := cellsFrom_ok scope.names (h.push { cls := .type "dict", data := .dict #[] }) (h.objs.size + 1) [] ⟨fun zz zz hm => (nomatch hm), List.Pairwise.nil⟩ (by rw [SL]; exact PK _)
  rwa [SL] at this
 have hC : h'.get? h.objs.size = some { cls := .type "dict", data := .dict #[] } := Aw _ _ _ _ (Rg _ rfl)
 have hns : h'.Ns h.objs.size (fun zz => none) := (PP.Ns.new h (.type "dict")).keeps (Aw _ _)
 have kv : Kv h h' := Kv.of_keeps keep
 have hx : ∃ more, ρ = ρ ++ more := ⟨[], by simp⟩
 have hfresh : ∀ q ∈ cellsFrom (h.objs.size + 1) scope.names [], h.objs.size + 1 <= q.2 /\ h'.IsCell q.2 none := fun q hq => ⟨(ok.empty q.1 q.2 hq).2, (ok.empty q.1 q.2 hq).1⟩
 have hcl : ∀ q ∈ xU env.cells scope.names [], (q.1, Ul) ∈ scope.names /\ env.cells.lookup q.1 = some q.2 := fun q hq => by
  obtain ⟨a, b⟩ := fO _ _ q hq
  obtain ⟨c, hc⟩ := R.has q.1 (K.fr _ a rfl)
  rw [hc] at b
  exact ⟨a, by rw [hc, b]; rfl⟩
 have hlow : ∀ q ∈ xU env.cells scope.names [], q ∈ env.cells := fun q hq => mem_of_lookup (hcl q hq).2
 have Xg : ∀ q ∈ env.cells, q.2 < h.objs.size := fun q hq => by
  obtain ⟨_, _, v, o, ho, _⟩ := R.cells q hq
  exact RJ ho
 have fkeys : ∀ x, x ∈ (cellsFrom (h.objs.size + 1) scope.names []).map (·.1) -> scope.names.lookup x = some .cell := fun x hm => by
  rw [jb] at hm
  simp only [Al, PS, TD] at hm
  obtain ⟨q, hq, rfl⟩ := Ri.mp hm
  obtain ⟨h1, h2⟩ := RM.mp hq
  exact jS K.nd (show (q.1, aH) ∈ scope.names by rw [<- eq_of_beq h2]; exact h1)
 have clkeys : ∀ q ∈ xU env.cells scope.names [], scope.names.lookup q.1 = some .free := fun q hq => jS K.nd (hcl q hq).1
 have fnd : ((cellsFrom (h.objs.size + 1) scope.names []).map (·.1)).Nodup := by
  rw [jb]
  simp only [Al, PS]
  exact AA.mpr (((bp _ (au)).nodup K.nd).imp fun h => SO h)
 have lk : ∀ x, cenv.cells.lookup x = ((cellsFrom (h.objs.size + 1) scope.names []).lookup x).orElse fun zz => (xU env.cells scope.names []).lookup x := fun x => wA _ _ x
 have lkfree : ∀ x, scope.names.lookup x = some .free -> ∃ c, env.cells.lookup x = some c /\ cenv.cells.lookup x = some c := fun x hxf => by
  have hm := mem_of_lookup hxf
  obtain ⟨c, hc⟩ := R.has x (K.fr _ hm rfl)
  have hno : (cellsFrom (h.objs.size + 1) scope.names []).lookup x = none := yF fun q => by rw [fkeys x q] at hxf; cases hxf
  have hh := Zr env.cells scope.names x hm
  rw [hc] at hh
  obtain ⟨c', hc'⟩ := jo (l := xU env.cells scope.names []) (RS (f := (·.1)) hh)
  have e2 := (hcl _ (mem_of_lookup hc')).2
  rw [hc] at e2
  exact ⟨c, hc, by rw [lk, hno]; simp only [Option.orElse]; rw [hc']; exact e2.symm⟩
 have lkcell : ∀ x, scope.names.lookup x = some .cell -> ∃ c, cenv.cells.lookup x = some c /\ (x, c) ∈ cellsFrom (h.objs.size + 1) scope.names [] := fun x hxc => by
  have hm : x ∈ (cellsFrom (h.objs.size + 1) scope.names []).map (·.1) := by
   rw [jb]
   simp only [Al, PS, TD]
   exact Ri.mpr ⟨_, RM.mpr ⟨mem_of_lookup hxc, by simp⟩, rfl⟩
  obtain ⟨c, hc⟩ := jo hm
  exact ⟨c, by rw [lk, hc]; rfl, mem_of_lookup hc⟩
 have sclk : ∀ x, (σ.comp scope.names).sc.lookup x = (scope.names.lookup x).map fun k => if (k == .free && σ.sc.lookup x == some .cell) then .cell else k := fun x => by
  have := fi (fun (nm : Str) (k : Sm) => if (k == .free && σ.sc.lookup nm == some .cell) then aH else k) scope.names x
  rw [<- this]
  unfold LE.comp
  simp only
  congr 1
  apply SK
  rintro ⟨a, b⟩ _
  simp only
  split <;> rfl
 have vslk : ∀ x p, (σ.comp scope.names).vs.lookup x = some p -> scope.names.lookup x = some .free /\ σ.vs.lookup x = some p := by
  intro x p
  unfold LE.comp
  simp only
  induction σ.vs with
  | nil => intro h; cases h
  | cons q l ih =>
    obtain ⟨y, v⟩ := q
    intro hq
    rw [filter_cons] at hq
    split at hq
    ·rename_i hy
     rw [Ry] at hq ⊢
     induction hxy : (x == y) with
     | true =>
       have := eq_of_beq hxy; subst this
       rw [hxy] at hq
       exact ⟨eq_of_beq hy, hq⟩
     | false => rw [hxy] at hq; exact ih hq
    ·rename_i hy
     obtain ⟨a, b⟩ := ih hq
     refine ⟨a, ?_⟩
     rw [Ry]
     have : (x == y) = false := by
      rw [beq_eq_false_iff_ne]; rintro rfl
      exact hy (by rw [a]; rfl)
     rw [this]; exact b
 refine ⟨keep, fun b hb => ?_, ⟨?_, ?_, R.glob, R.blt, fun q => absurd (S.lt q) (Sq _), ⟨_, hns, fun x p hv hk => ?_⟩, fun x p hv hk => ?_, fun q hq => ?_, fun q hq q' hq' e => ?_, fun x hk => ?_⟩, fun x hxn c hc => ?_, fun b hb => ?_⟩
 ·rcases Rq.mp hb with rfl | hb
  ·exact ⟨PK _, .head _⟩
  ·obtain ⟨q, hq, rfl⟩ := Ri.mp hb
   exact ⟨RL (hfresh q hq).1, .tail _ (RS (f := (·.2)) (Ro _ hq))⟩
 ·show (relabel scope env).kind = .function
  exact K.kind
 ·show (relabel scope env).names = (σ.comp scope.names).sc
  unfold relabel LE.comp
  simp only
  apply SK
  rintro ⟨a, b⟩ _
  have : env.kindOf a = σ.sc.lookup a := by unfold Env.kindOf; rw [R.names]
  simp only [R.kind, this, beq_self_eq_true, Bool.and_true]
 ·obtain ⟨a, b⟩ := vslk x p hv
  rw [sclk, a] at hk
  have := K.fr _ (mem_of_lookup a) rfl
  simp only [this] at hk
  cases hk
 ·obtain ⟨a, b⟩ := vslk x p hv
  obtain ⟨c, hc1, hc2⟩ := lkfree x a
  obtain ⟨c', v, e1, e2, e3⟩ := R.cel x p b (K.fr _ (mem_of_lookup a) rfl)
  rw [hc1] at e1; cases e1
  obtain ⟨o, ho, hd⟩ := e2
  exact ⟨c, v, hc2, ⟨o, keep _ _ ho, hd⟩, e3.mono hx kv⟩
 ·rcases PU.mp hq with hq | hq
  ·obtain ⟨a, b⟩ := hfresh q hq
   refine ⟨fun z => absurd (S.lt z) (Sh.mpr (RL a)), RZ a, _, b⟩
  ·have hm := hlow q hq
   obtain ⟨a, b, v, o, ho, hd⟩ := R.cells q hm
   exact ⟨a, RQ (Xg q hm), v, o, keep _ _ ho, hd⟩
 ·rcases PU.mp hq with hq | hq <;> rcases PU.mp hq' with hq' | hq'
  ·exact name_of_addr ok.apart (show (q.1, q.2) ∈ _ from hq) (by rw [e]; exact hq')
  ·exact absurd (PZ (Xg q' (hlow q' hq')) (RL (hfresh q hq).1)) (by rw [e]; exact Sq _)
  ·exact absurd (PZ (Xg q (hlow q hq)) (RL (hfresh q' hq').1)) (by rw [e]; exact Sq _)
  ·exact R.sep q (hlow q hq) q' (hlow q' hq') e
 ·rw [sclk] at hk
  obtain ⟨k, h1, h2⟩ := Sv.mp hk
  split at h2
  ·rename_i hg
   simp only [Rl, beq_iff_eq] at hg
   rw [hg.1] at h1
   obtain ⟨c, _, hc⟩ := lkfree x h1
   exact ⟨c, hc⟩
  ·subst h2
   obtain ⟨c, hc, _⟩ := lkcell x h1
   exact ⟨c, hc⟩
 ·rw [lk] at hc
  induction hq : (cellsFrom (h.objs.size + 1) scope.names []).lookup x with
  | some c' =>
    rw [hq] at hc
    cases hc
    exact .tail _ (RS (f := (·.2)) (mem_of_lookup hq))
  | none =>
    rw [hq] at hc
    exact absurd (clkeys _ (mem_of_lookup hc)) hxn
 ·rcases Rq.mp hb with rfl | hb
  ·exact .inl (.head _)
  ·obtain ⟨q, hq, rfl⟩ := Ri.mp hb
   rcases PU.mp hq with hq | hq
   ·exact .inl (.tail _ (RS (f := (·.2)) hq))
   ·exact .inr ⟨q, hlow q hq, rfl⟩
end
section
variable {w : Rk} {hT : PP} {A : RE} {l : List Env} {ρ ρ' ρ₀ : List PE} {μ μ₁ μ' : q4} {s : Py} {n : Nat} {env cenv : Env} {outer : List Env} {σ σ' : LE} {h h' h₀ : PP} {r : Ev}
theorem Stk.leX {own : List PE} (K : Stk hT A ρ h l) (x : Le own ρ h ρ' h') (f : ∀ b ∈ own, h.get? b = none) : Stk hT A ρ' h' l := by
 have nf : ∀ e ∈ l, ∀ L, e.frame = some L -> L ∉ own := fun e he L hL q => by
  obtain ⟨_, o, ho, _⟩ := K.out e he L hL
  rw [f L q] at ho; cases ho
 refine ⟨K.fr, yb x.kp K.ff fun e he L hf => ⟨(K.out e he L hf).1, nf e he L hf⟩, fun e he L hf => ?_⟩
 obtain ⟨h1, o, ho, hd⟩ := K.out e he L hf
 obtain ⟨sl, hs⟩ := x.kp L o ho h1 (nf e he L hf)
 exact ⟨x.out ho h1, _, hs, hd⟩
theorem fU {D : PE} {vs : Array Pu} {own : List PE} (x : Le own ρ h ρ' h') (hD : h.PlainList D vs) (h1 : D ∉ ρ) (h2 : D ∉ own) : h'.PlainList D vs := by
 obtain ⟨n, ho⟩ := hD
 exact ⟨n, x.ex D _ ho h1 h2 fun es ep q => by cases q⟩
theorem Xe {D : PE} {vs : Array Pu} {own : List PE} (x : KB own h h') (hD : h.PlainList D vs) (h2 : D ∉ own) : h'.PlainList D vs := by
 obtain ⟨n, ho⟩ := hD
 exact ⟨n, x D _ h2 ho⟩
structure CI (w : Rk) (hT : PP) (cenv : Env) (co own : List PE) (D : PE) (ρ₀ : List PE) (h₀ : PP) (src : Src) (I : PE) (i : Nat) (σ : LE) (ρ : List PE) (μ : q4) (h : PP) (vs : List Pu) (ps : List PV) : Prop where
 le : Le (own ++ D :: co) ρ₀ h₀ ρ h
 sr : SR w hT ρ μ h
 er : qN hT ρ h cenv σ
 it : zd ρ h own src i I
 nr : ∀ b ∈ own ++ D :: co, b ∉ ρ
 acc : h.PlainList D vs.toArray
 rv : RvL hT ρ h vs ps
structure CK (hT : PP) (A : RE) (l : List Env) (cenv : Env) (co own : List PE) (D : PE) (ρ₀ : List PE) (h₀ : PP) (n : Nat) : Prop where
 f0 : ∀ b ∈ own ++ D :: co, h₀.get? b = none
 hn : ∀ b ∈ own ++ D :: co, hT.get? b = none
 sub : ∀ b ∈ co, b ∈ qy cenv
 loc : cenv.locals ∈ co
 d1 : ∀ b ∈ own, b ∉ qy cenv /\ b ≠ D
 d2 : D ∉ qy cenv
 sk : Stk hT A ρ₀ h₀ l
 rm : jX A n
section
variable {co own : List PE} {D I : PE} {src : Src} {i : Nat} {vs : List Pu} {ps : List PV}
theorem CI.there (X : CI w hT cenv co own D ρ₀ h₀ src I i σ ρ μ h vs ps) (K : CK hT A l cenv co own D ρ₀ h₀ n) : ∀ b ∈ own ++ D :: co, ∃ o, h.get? b = some o := fun b hb => by
 rcases PU.mp hb with hb | hb
 ·exact X.it.there b hb
 ·rcases Rq.mp hb with rfl | hb
  ·obtain ⟨n, ho⟩ := X.acc; exact ⟨_, ho⟩
  ·exact X.er.there b (K.sub b hb)
theorem CI.act (X : CI w hT cenv co own D ρ₀ h₀ src I i σ ρ μ h vs ps) (K : CK hT A l cenv co own D ρ₀ h₀ n) : Act w hT A l cenv σ ρ μ h n := ⟨X.sr, X.er, K.sk.leX X.le K.f0, K.rm⟩
theorem CI.le0 (X : CI w hT cenv co own D ρ₀ h₀ src I i σ ρ μ h vs ps) (K : CK hT A l cenv co own D ρ₀ h₀ n) (x : Le [] ρ h ρ' h') (S : SR w hT ρ' μ' h') : CI w hT cenv co own D ρ₀ h₀ src I i σ ρ' μ' h' vs ps := by
 refine ⟨X.le.trans x.any, S, X.er.le X.sr x, X.it.le x fun b hb => ⟨X.nr b (Ro _ hb), by simp⟩, fun b hb => ?_, fU x X.acc (X.nr D (Ra _ (.head _))) (by simp), X.rv.le X.sr x⟩
 obtain ⟨o, ho⟩ := X.there K b hb
 exact x.out ho (X.nr b hb)
theorem CI.bound (X : CI w hT cenv co own D ρ₀ h₀ src I i σ ρ μ h vs ps) (K : CK hT A l cenv co own D ρ₀ h₀ n) (x : Le co ρ h ρ h') (S : SR w hT ρ μ h') (R : qN hT ρ h' cenv σ') : CI w hT cenv co own D ρ₀ h₀ src I i σ' ρ μ h' vs ps := by
 have hDco : D ∉ co := fun q => K.d2 (K.sub D q)
 refine ⟨X.le.trans (x.weaken fun b zz zz q => Ra _ (.tail _ q)), S, R, X.it.le x fun b hb => ⟨X.nr b (Ro _ hb), fun q => (K.d1 b hb).1 (K.sub b q)⟩, X.nr, fU x X.acc (X.nr D (Ra _ (.head _))) hDco, ?_⟩
 exact X.rv.mono ⟨[], by simp⟩ (X.sr.kv (X.er.ownOf K.sub) x)
theorem CI.next {i' : Nat} (X : CI w hT cenv co own D ρ₀ h₀ src I i σ ρ μ h vs ps) (K : CK hT A l cenv co own D ρ₀ h₀ n) (kb : KB own h h') (it : zd ρ h' own src i' I) : CI w hT cenv co own D ρ₀ h₀ src I i' σ ρ μ h' vs ps := by
 have nt := X.it.nt
 have hDo : D ∉ own := fun q => (K.d1 D q).2 rfl
 refine ⟨X.le.trans ((Le.kb kb it.there).weaken fun b zz zz q => Ro _ q), X.sr.kb (fun b hb => ⟨X.nr b (Ro _ hb), K.hn b (Ro _ hb)⟩) kb nt, X.er.kb kb nt fun b hb => (K.d1 b hb).1, it, X.nr, Xe kb X.acc hDo, X.rv.mono ⟨[], by simp⟩ (kb.kv nt)⟩
theorem CI.push {v : Pu} {p : PV} (X : CI w hT cenv co own D ρ₀ h₀ src I i σ ρ μ h vs ps) (K : CK hT A l cenv co own D ρ₀ h₀ n) (rv : Rv hT ρ h v p) (hs : RK D h h') (hp : h'.PlainList D (vs.toArray.push v)) : CI w hT cenv co own D ρ₀ h₀ src I i σ ρ μ h' (vs ++ [v]) (ps ++ [p]) := by
 have kb := KB.same hs
 have nt : NT [D] h := fun b hb o e hc => by
  rw [Pw.mp hb] at e
  obtain ⟨n, ho⟩ := X.acc
  rw [ho] at e; cases e
  have := hc.1; simp at this
 have hx : ∃ more, ρ = ρ ++ more := ⟨[], by simp⟩
 have e2 : vs.toArray.push v = (vs ++ [v]).toArray := by simp
 have hDm : D ∈ own ++ D :: co := Ra _ (.head _)
 refine ⟨X.le.trans ((Le.kb kb fun b hb => by rw [Pw.mp hb]; obtain ⟨n, ho⟩ := hp; exact ⟨_, ho⟩).weaken fun b zz zz q => by rw [Pw.mp q]; exact hDm), X.sr.kb (fun b hb => by rw [Pw.mp hb]; exact ⟨X.nr D hDm, K.hn D hDm⟩) kb nt,
  X.er.kb kb nt fun b hb => by rw [Pw.mp hb]; exact K.d2, X.it.keep hx fun b hb o e zz => (hs.2 b (K.d1 b hb).2).trans e, X.nr, e2 ▸ hp, (X.rv.mono hx (kb.kv nt)).append (.cons (rv.mono hx (kb.kv nt)) .nil)⟩
theorem fw {α β : Type} {m : PR α} {f : α -> PM β} {b : β} {μ' : q4} (h : qa m f = some (.ok b, μ')) : ∃ a μ₁, m = some (.ok a, μ₁) /\ f a μ₁ = some (.ok b, μ') := by
 rcases wV h with ⟨x, _, e⟩ | h
 ·cases e
 ·exact h
theorem Sim.ok {α β : Type} {rel : List PE -> PP -> α -> β -> Prop} {t : Sem α} {m : PR β} {b : β} {Q : α -> Py -> Prop} {E : Pu -> Py -> Prop} (S : Sim w hT A rel ρ s t m) (h1 : 1 <= s.toks) (hm : m = some (.ok b, μ'))
 (k : ∀ a h' tk ρ', Le [] ρ s.heap ρ' h' -> SR w hT ρ' μ' h' -> rel ρ' h' a b -> 1 <= tk -> Q a { s with heap := h', toks := tk }) : PQ (MM w) A t Q E s :=
 S h1 _ _ hm Q E ⟨fun a h' tk ρ' b' e x S' rv ht => by cases e; exact k a h' tk ρ' x S' rv ht, fun e h' tk ρ' x e' => nomatch e'⟩
theorem Cj {ifs : List Expr} {b : Bool} {cenv : Env} {l : List Env} {Q : Bool -> Py -> Prop} {E : Pu -> Py -> Prop} {f : Expr -> Bool -> Sem (ForInStep Bool)} (hf : ∀ c, f c true = (isTrue c cenv (eval c cenv) >>= fun b => pure (SI b))) (G : GF w hT) (H : j4 w hT r n) (X : Act w hT A l cenv σ ρ μ s.heap n) (ht : 1 <= s.toks) (hm : zW r σ ifs μ = some (.ok b, μ'))
 (k : ∀ h' tk ρ', Le [] ρ s.heap ρ' h' -> SR w hT ρ' μ' h' -> 1 <= tk -> Q b { s with heap := h', toks := tk }) : PQ (MM w) A (ba ifs true f) Q E s := by
 induction ifs using PD with
 | nil =>
   have e := wU (show some ((.ok true : Except Exn Bool), μ) = some (.ok b, μ') from hm)
   rw [T6]
   have e1 : b = true := by injection e.1
   subst e1
   exact wpAny_pure (k s.heap s.toks ρ (Le.refl _ _ _) (e.2 ▸ X.sr) ht)
 | cons c cs =>
   induction cs using PD with
   | cons _ _ => exact no hm
   | nil =>
     rw [SJ, hf]
     refine wpAny_bind (wpAny_bind ((fm G H c X).ok ht hm fun b' h₄ tk₄ ρ₄ x4 S4 eb ht4 => wpAny_pure ?_))
     show PQ _ _ (ba [] b' _) _ _ _
     rw [T6]
     exact wpAny_pure (eb ▸ k h₄ tk₄ ρ₄ x4 S4 ht4)
theorem Zk {target iter elt : Expr} {ifs : List Expr} {scope : Un} {pos : Pos} {R : Result -> Py -> Prop} {ys₀ : List PV} (G : GF w hT) (H : j4 w hT r n) (K : CK hT A l cenv co own D ρ₀ h₀ n) (hto : jC target = true) (hen : ∀ m, src = .enum m -> zu target = true) (hx : ∀ x ∈ vP target, QN cenv co x)
 (hlen : ys₀.length <= Pr) (hR : ∀ h' tk ρ' vs', Le [] ρ₀ h₀ ρ' h' -> SR w hT ρ' μ' h' -> h'.PlainList D (List.toArray vs') -> RvL hT ρ' h' vs' ys₀ -> (∀ b ∈ D :: co, b ∉ ρ') -> (∃ m, h'.Ns cenv.locals m) -> 1 <= tk -> R (.ok .next) { s with heap := h', toks := tk }) (k : Nat) :
 ∀ (i : Nat) (σ : LE) (ρ : List PE) (μ : q4) (h : PP) (tk : Nat) (vs : List Pu) (ps ys : List PV), CI w hT cenv co own D ρ₀ h₀ src I i σ ρ μ h vs ps -> 1 <= tk -> zV r src target ifs elt k i σ μ = some (.ok ys, μ') -> ps ++ ys = ys₀ ->
  TC (MM w) A (.compLoop (.ListComp elt [⟨target, iter, ifs, 0⟩] scope pos) 0 (.ref I) (.ref D) cenv) R { s with heap := h, toks := tk } := by
 induction k with
 | zero => exact fun zz zz zz zz zz zz zz zz zz zz zz hm => no hm
 | succ k ih =>
   intro i σ ρ μ h tk vs ps ys X ht hm hys
   have hnr : ∀ b ∈ own, b ∉ ρ := fun b hb => X.nr b (Ro _ hb)
   refine Av ?_
   show PQ _ A ((compTurn (.ListComp elt [⟨target, iter, ifs, 0⟩] scope pos) 0 (.ref I) (.ref D) cenv).onRaise (fun x => do noteFrame x cenv; theTreesLotGoes x)) _ _ _
   refine wpAny_noted ?_
   rw [compTurn_list]
   obtain ⟨o, hn, hm1⟩ := bnd (o := xo src i μ) hm
   clear hm
   induction o with
   | none =>
     have e := wU (show some ((.ok [] : Except Exn (List PV)), μ) = some (.ok ys, μ') from hm1)
     have e1 : ys = [] := by injection e.1
     have e2 := e.2
     subst e1 e2
     rw [PS] at hys
     subst hys
     refine wpAny_bind (wpAny_standAt (wpAny_bind (w8 (s := { s with heap := h, toks := tk }) K.rm.1 hto hen ht X.sr X.it hnr hn (fun zz h' tk kb ht' => ?_) fun p v h' tk e => nomatch e)))
     have nt := X.it.nt
     exact wpAny_pure (hR h' tk ρ vs (Le.fin (own := own ++ D :: co) (own' := []) (by rw [PS]; exact X.le) K.f0 (kb.mono fun b hb => Ro _ hb)) (X.sr.kb (fun b hb => ⟨hnr b hb, K.hn b (Ro _ hb)⟩) kb nt)
      (Xe kb X.acc (fun q => (K.d1 D q).2 rfl)) (X.rv.mono ⟨[], (PS _).symm⟩ (kb.kv nt)) (fun b hb => X.nr b (Ra _ hb)) (let ⟨m, hm, _⟩ := (X.er.kb kb nt fun b hb => (K.d1 b hb).1).ns; ⟨m, hm⟩) ht')
   | some p =>
     obtain ⟨σ', hb, hm2⟩ := bnd (o := qu σ target p) hm1
     obtain ⟨b, μ₁, hb1, hm3⟩ := fw hm2
     clear hm1 hm2
     refine wpAny_bind (wpAny_standAt (wpAny_bind (w8 (s := { s with heap := h, toks := tk }) K.rm.1 hto hen ht X.sr X.it hnr hn (fun e => nomatch e) fun p' v h' tk e kb rv ht' go => ?_)))
     have e := qk e
     subst e
     refine wpAny_bind (go _ _ fun h'' kb2 rv2 it2 => ?_)
     have X2 := X.next K kb2 it2
     refine wpAny_bind (w7 (s := { s with heap := h'', toks := tk }) (own := co) hb K.rm.1 ht' X2.sr X2.er rv2 (fun b hb => K.hn b (Ra _ (.tail _ hb))) K.sub K.loc hx fun h₃ tk₃ x3 S3 R3 ht3 => ?_)
     have X3 := X2.bound K x3 S3 R3
     refine wpAny_bind (Cj (s := { s with heap := h₃, toks := tk₃ }) (fun zz => rfl) G H (X3.act K) ht3 hb1 fun h₄ tk₄ ρ₄ x4 S4 ht4 => ?_)
     have X4 := X3.le0 K x4 S4
     induction b with
     | false => exact wpAny_pure ⟨rfl, ih (i + 1) σ' ρ₄ μ₁ h₄ tk₄ vs ps ys X4 ht4 hm3 hys⟩
     | true =>
       obtain ⟨y, μ₂, hy, hm4⟩ := fw (m := r.ev σ' elt μ₁) hm3
       obtain ⟨ys', μ₃, hyy, hm5⟩ := fw hm4
       have e := wU (show some ((.ok (y :: ys') : Except Exn (List PV)), μ₃) = some (.ok ys, μ') from hm5)
       have e1 : ys = y :: ys' := by injection e.1
       rw [e1] at hys
       rw [<- e.2] at hyy
       refine wpAny_bind (wpAny_bind ((H A l cenv σ' ρ₄ μ₁ { s with heap := h₄, toks := tk₄ } elt (X4.act K)).ok ht4 hy fun yv h₅ tk₅ ρ₅ x5 S5 ry ht5 => ?_))
       have X5 := X4.le0 K x5 S5
       refine wpAny_bind (A7 X5.acc (fun h₆ hp6 hs6 => wpAny_pure (wpAny_pure ⟨rfl, ?_⟩)) ?_)
       ·exact ih (i + 1) σ' ρ₅ μ₂ h₆ tk₅ (vs ++ [yv]) (ps ++ [y]) ys' (X5.push K ry hs6 hp6) ht5 hyy (by rw [PH]; exact hys)
       ·rw [RV, X5.rv.length]; rw [<- hys, PB, SX] at hlen; lia
end
end
theorem Zg {e : Expr} {env : Env} (h : yt e = false) (x : Pu) : foldedSetIterable e env x = pure x := by
 induction e using PC <;> first | rfl | cases h
section
variable {w : Rk} {hT : PP} {A : RE} {l : List Env} {ρ ρ' ρ₀ : List PE} {μ μ₁ μ' : q4} {s : Py} {n : Nat} {env cenv : Env} {outer : List Env} {σ σ' : LE} {h h' h₀ : PP} {r : Ev}
structure It0 (ρ : List PE) (h h' : PP) (own : List PE) (src : Src) (I : PE) : Prop where
 it : zd ρ h' own src 0 I
 keep : ∀ b o, h.get? b = some o -> h'.get? b = some o
 low : ∀ b ∈ own, h.objs.size <= b /\ b < h'.objs.size
theorem It0.le {own : List PE} {src : Src} {I : PE} (x : It0 ρ h h' own src I) : h.objs.size <= h'.objs.size := by
 induction src with
 | list n => obtain ⟨rfl, _⟩ := x.it; have := x.low I (.head _); exact Tf (RI this.1 this.2)
 | str n => obtain ⟨rfl, _⟩ := x.it; have := x.low I (.head _); exact Tf (RI this.1 this.2)
 | enum n => obtain ⟨J, a, old, rfl, _⟩ := x.it; have := x.low I (.head _); exact Tf (RI this.1 this.2)
theorem Qz {v : Pu} {p : PV} {src : Src} {k : Nat} {Q : Pu -> Py -> Prop} {E : Pu -> Py -> Prop} (S : SR w hT ρ μ s.heap) (rv : Rv hT ρ s.heap v p) (hs : zY p μ = some (src, k))
 (h : ∀ h' own I, It0 ρ s.heap h' own src I -> Q (.ref I) { s with heap := h' }) : PQ (MM w) A (ct v) Q E s := by
 unfold zY at hs
 have fin : ∀ {v : Pu} {o : Obj}, (o.isFreed = false) -> zd ρ (s.heap.push o) [s.heap.objs.size] src 0 s.heap.objs.size -> Q (.ref s.heap.objs.size) { s with heap := s.heap.push o } := fun {v o} zz it => h _ [s.heap.objs.size] _ ⟨it, qg _ _, fun b hb => by
  rw [Pw.mp hb, SL]
  exact ⟨PK _, RU _⟩⟩
 induction hp : qx p with
 | some x =>
   rw [hp] at hs
   obtain ⟨t, rfl, _⟩ := rv.sI hp
   have e := (wU hs).1
   subst e
   exact wpAny_pyIter_strU (fin (v := .none) rfl ⟨rfl, t, _, Rg _ rfl, rfl, rfl⟩)
 | none =>
   rw [hp] at hs
   obtain ⟨m, hm, hs⟩ := bnd hs
   obtain ⟨l, hl, hs⟩ := mp' hs
   obtain ⟨a, rfl, hn⟩ := rv.lI hm
   obtain ⟨_, vs, hp, hv⟩ := S.listAt hn hl
   have e := (wU hs).1
   subst e
   exact UW (PlainList.isList hp) (fin (v := .none) rfl ⟨rfl, a, hn, _, Rg _ rfl, rfl, rfl⟩)
theorem VR {own : List PE} {src : Src} {i : Nat} {I : PE} {Q : Pu -> Py -> Prop} {E : Pu -> Py -> Prop} (x : zd ρ s.heap own src i I) (h : Q (.ref I) s) : PQ (MM w) A (ct (.ref I)) Q E s := by
 induction src with
 | list n => obtain ⟨_, a, _, hit⟩ := x; exact wpAny_pyIter_listiter hit h
 | str y =>
   obtain ⟨_, t, hit⟩ := x
   unfold U6 at hit
   split at hit
   ·exact wpAny_pyIter_striter_ascii hit h
   ·exact wpAny_pyIter_striter_wide hit h
 | enum n => obtain ⟨J, a, old, _, _, _, he, _⟩ := x; exact wpAny_pyIter_enum he h
theorem CO {β : Type} {iter target : Expr} {f : Src × Nat -> PM β} {res : Except Exn β} {Q : Pu -> Py -> Prop} {E : Pu -> Py -> Prop} (G : GF w hT) (H : j4 w hT r n) (X : Act w hT A l env σ ρ μ s.heap n) (ht : 1 <= s.toks) (hm : qa (vt r σ target iter μ) f = some (res, μ'))
 (err : ∀ e h' tk ρ' x, res = .error x -> Le [] ρ s.heap ρ' h' -> SR w hT ρ' μ' h' -> ww s.heap h' e x -> 1 <= tk -> E (.ref e) { s with heap := h', toks := tk })
 (fin : ∀ h₁ h₂ tk ρ₁ μ₁ own src I k, (∀ m, src = .enum m -> zu target = true) -> Le [] ρ s.heap ρ₁ h₁ -> SR w hT ρ₁ μ₁ h₁ -> It0 ρ₁ h₁ h₂ own src I -> 1 <= tk -> f (src, k) μ₁ = some (res, μ') -> Q (.ref I) { s with heap := h₂, toks := tk }) :
 PQ (MM w) A (eval iter env) (fun x s₁ => PQ (MM w) A (ct x) Q E s₁) E s := by
 have P : xH w hT (fun zz zz (_ : Pu) (_ : β) => True) ρ s res μ' (fun zz zz => True) E := ⟨fun zz zz zz zz zz zz zz zz zz zz => trivial, fun e h' tk ρ' x e1 e2 e3 e4 e5 => err e h' tk ρ' x e1 e2 e3 e4 e5⟩
 have pp : ∀ {α : Type} {m : PR α} {g : α -> PM (Src × Nat)}, qa (qa m g) f = qa m fun a μ => qa (g a μ) f := fun {α m g} => by
  match m with
  | none => rfl
  | some (.error _, _) => rfl
  | some (.ok _, _) => rfl
 unfold vt at hm
 cases hq : (yf iter).filter (fun q => q.1 == ("enumerate" : Str)) with
 | none =>
   rw [hq] at hm
   have hm := pp ▸ hm
   refine (H A l env σ ρ μ s iter X).andThen ht hm P fun v h₁ tk₁ ρ₁ p μ₁ x1 S1 rv ht1 hm1 P1 => ?_
   induction hs : zY p μ₁ with
   | none => rw [hs] at hm1; exact no hm1
   | some q =>
     rw [hs] at hm1
     exact Qz (s := { s with heap := h₁, toks := tk₁ }) S1 rv hs fun h₂ own I x0 => fin h₁ h₂ tk₁ ρ₁ μ₁ own q.1 I q.2 (fun m e => by
      unfold zY at hs
      induction hp : qx p with
      | some x => rw [hp] at hs; rw [<- qk hs] at e; cases e
      | none => rw [hp] at hs; obtain ⟨_, _, hs⟩ := bnd hs; obtain ⟨_, _, hs⟩ := mp' hs; rw [<- qk hs] at e; exact nomatch e) x1 S1 x0 ht1 hm1
 | some q =>
   rw [hq] at hm
   obtain ⟨hq1, hq2⟩ := Option.filter_eq_some_iff.mp hq
   obtain ⟨fp, pos, e⟩ := w2 hq1
   obtain ⟨f0, x⟩ := q
   have e2 := qb hq2
   clear hq hq1 hq2
   dsimp only at e e2 hm
   subst e e2
   cases hg : (σ.isG ("enumerate" : Str) && !qf x && zu target) with
   | false => rw [hg] at hm; exact no hm
   | true =>
     rw [hg] at hm
     have hm := pp ▸ hm
     have hs : [x].all (!qf ·) = true := by rw [Uk, (an (an hg).1).2]; rfl
     refine jZ (zN G X.er X.sr (an (an hg).1).1 (v := .type "enumerate") (by kernel_rfl) (by kernel_rfl) (by decide) rfl ?_)
     refine TP (by rw [q9 hs]; rfl) (qP (qI hs) ?_)
     rw [q9 hs]
     refine spliced_cons ((H A l env σ ρ μ s x X).andThen ht hm P fun v h₁ tk₁ ρ₁ p μ₁ x1 S1 rv ht1 hm1 P1 => ?_)
     induction hl : jq p with
     | none => rw [hl] at hm1; exact no hm1
     | some m =>
     rw [hl] at hm1
     induction hd : q5 μ₁ m with
     | none => rw [PL, hd] at hm1; exact no hm1
     | some dl =>
     rw [PL, hd] at hm1
     obtain ⟨a, e, hn⟩ := rv.lI hl
     obtain ⟨_, vs, hp, hv⟩ := S1.listAt hn hd
     subst e
     exact Ta (call_enumerate_list (s := { s with heap := h₁, toks := tk₁ }) (PlainList.isList hp) fun h' he hit hz hk => wpAny_pyIter_enum (s := { s with heap := h', toks := tk₁ }) he
      (fin h₁ h' tk₁ ρ₁ μ₁ [h₁.objs.size + 1, h₁.objs.size] (.enum m) _ _ (fun m zz => (an hg).2) x1 S1 ⟨⟨h₁.objs.size, a, .none, rfl, bz _, hn, he, hit⟩, hk, fun b hb => by
        rw [show h'.objs.size = h₁.objs.size + 2 from hz]
        rcases Rq.mp hb with rfl | hb
        ·exact ⟨U5 _, RU _⟩
        ·rw [Pw.mp hb]; exact ⟨PK _, Nat.lt_succ_of_lt (RU _)⟩⟩ ht1 hm1))
theorem SR.adopt {D : PE} {c : q8} (S : SR w hT ρ μ h) (h1 : D ∉ ρ) (h2 : hT.get? D = none) (h3 : T1 < D) (hc : Rc w hT (ρ ++ [D]) h D c) : SR w hT (ρ ++ [D]) (μ ++ [c]) h := by
 refine ⟨S.top, ?_, by simp [S.len], fun b hb => ?_, ⟨S.low.1, fun b hb => ?_⟩, fun n b d e1 e2 => ?_⟩
 ·refine US.mpr ⟨S.nodup, by simp, fun x hx b hb => ?_⟩
  rw [Pw.mp hb]
  rintro rfl; exact h1 hx
 ·rcases PU.mp hb with q | q
  ·exact S.notop b q
  ·rw [Pw.mp q]; exact h2
 ·rcases PU.mp hb with q | q
  ·exact S.low.2 b q
  ·rw [Pw.mp q]; exact h3
 ·by_cases hn : n < ρ.length
  ·rw [RB hn] at e1
   rw [RB (S.len ▸ hn)] at e2
   exact Rc.keeps (fun zz zz e => e) (S.cells n b d e1 e2)
  ·have hn' : n = ρ.length := by
    have := (R0.mp e1).1
    simp at this; lia
   subst hn'
   rw [Rn (PK _), Ss] at e1
   rw [S.len, Rn (PK _), Ss] at e2
   cases e1; cases e2
   exact hc
theorem Le.adopt {D : PE} (x : Le [] ρ₀ h₀ ρ h) (hD : h₀.get? D = none) : Le [] ρ₀ h₀ (ρ ++ [D]) h := by
 obtain ⟨m, e, f⟩ := x.ext
 exact ⟨⟨m ++ [D], by rw [e, PH], fun b hb => by
  rcases PU.mp hb with q | q
  ·exact f b q
  ·rw [Pw.mp q]; exact hD⟩, x.kp, x.st, x.ex⟩
theorem gx {target iter elt : Expr} {ifs : List Expr} {sc : Un} {pos ipos : Pos} {use : Option (Pu -> Sem Unit)} {res : Except Exn PV} {Q : Pu -> Py -> Prop} {E : Pu -> Py -> Prop} (G : GF w hT) (H : j4 w hT r n) (X : Act w hT A l env σ ρ μ s.heap n) (ht : 1 <= s.toks) (hm : YM r σ elt target iter ifs sc μ = some (res, μ'))
 (err : ∀ e h' tk ρ' x, res = .error x -> Le [] ρ s.heap ρ' h' -> SR w hT ρ' μ' h' -> ww s.heap h' e x -> 1 <= tk -> E (.ref e) { s with heap := h', toks := tk })
 (fin : ∀ D C h' tk ρ' p, res = .ok p -> Le [] ρ s.heap ρ' h' -> SR w hT ρ' μ' h' -> Rv hT ρ' h' (.ref D) p -> s.heap.get? C = none -> C ∉ ρ' -> hT.get? C = none -> (∃ m, h'.Ns C m) -> 1 <= tk -> compPost (MM w) A E use Q (.ref D) C (.ok .next) { s with heap := h', toks := tk }) :
 PQ (MM w) A (aJ (.ListComp elt [⟨target, iter, ifs, 0⟩] sc pos) sc env ipos (newList []) false (eval iter env) use) Q E s := by
 obtain ⟨hg, hma⟩ := ifB hm
 clear hm
 have g1 := (orF (orF hg).1).1
 have K0 := JN.of (show vO σ sc = true by induction q : vO σ sc with | true => rfl | false => rw [q] at hg; exact noB (hg.symm.trans (by simp)))
 have g := an (show (jC target && (vP target).all fun x => !(sc.names.lookup x == some .free)) = true by cases q : (jC target && (vP target).all fun x => !(sc.names.lookup x == some .free)) with | true => rfl | false => rw [show BS target sc = false from q] at hg; exact noB (hg.symm.trans (by simp)))
 have g3 := g.1
 have g4 : ∀ x ∈ vP target, sc.names.lookup x ≠ some .free := fun x hx => beq_eq_false_iff_ne.mp (nt (PT.mp g.2 x hx))
 ·clear hg
  have hclos : cg sc env = pure (xU env.cells sc.names []) := Qx fun nk hnk hk => X.er.has _ (K0.fr nk hnk hk)
  refine wpAny_comprehension_free (g := ⟨target, iter, ifs, 0⟩) (gs := []) rfl (Zg g1) hclos K0.kind (fun y hy hl => jS K0.nd (show (y.1, Sm.local) ∈ sc.names by rw [<- hl]; exact hy)) ?_
  refine CO G H X ht hma err fun h₁ h₂ tk ρ₁ μ₁ own src I k hen x1 S1 i0 ht1 hm1 => ?_
  have hle := i0.le
  refine wpAny_newObj_type ?_
  have kD := qg h₂ { cls := .type "list", dict := none, data := .seq ([] : List Pu).toArray }
  have hsD : (h₂.push { cls := .type "list", dict := none, data := .seq ([] : List Pu).toArray }).objs.size = h₂.objs.size + 1 := SL ..
  have hD : (h₂.push { cls := .type "list", dict := none, data := .seq ([] : List Pu).toArray }).PlainList h₂.objs.size #[] := ⟨0, Rg _ rfl⟩
  dsimp only
  generalize hh3 : h₂.push { cls := .type "list", dict := none, data := .seq ([] : List Pu).toArray } = h₃ at kD hsD hD
  have k13 : ∀ b o, h₁.get? b = some o -> h₃.get? b = some o := fun b o e => kD b o (i0.keep b o e)
  have S3 := S1.keeps k13
  have R1 := X.er.le X.sr x1
  have R3 : qN hT ρ₁ h₃ env σ := R1.kb (own := []) (KB.of k13) (fun zz q => nomatch q) (fun zz q => nomatch q)
  refine Zy (s := { s with heap := h₃, toks := tk }) ?_
  obtain ⟨keep, cow, R4, hMine, hows⟩ := Fs R3 S3 K0
  show TC (MM w) A (.compStart (.ListComp elt [⟨target, iter, ifs, 0⟩] sc pos) 0 (.ref I) (.ref h₂.objs.size) (Q2 sc env h₃.objs.size)) (compPost (MM w) A E use Q (.ref h₂.objs.size) h₃.objs.size)
   { s with heap := bx (h₃.push { cls := .type "dict", data := .dict #[] }) sc.names, toks := tk }
  generalize hh4 : bx (h₃.push { cls := .type "dict", data := .dict #[] }) sc.names = h₄ at keep R4 ⊢
  have k14 : ∀ b o, h₁.get? b = some o -> h₄.get? b = some o := fun b o e => keep b o (k13 b o e)
  have k24 : ∀ b o, h₂.get? b = some o -> h₄.get? b = some o := fun b o e => keep b o (kD b o e)
  have it4 : zd ρ₁ h₄ own src 0 I := i0.it.keep ⟨[], by simp⟩ fun b zz o e zz => k24 b o e
  have low : ∀ b ∈ own ++ h₂.objs.size :: Qn sc h₃.objs.size, h₁.objs.size <= b := fun b hb => by
   rcases PU.mp hb with hb | hb
   ·exact (i0.low b hb).1
   ·rcases Rq.mp hb with rfl | hb
    ·exact hle
    ·exact Pq hle (Pq (by rw [hsD]; exact U5 _) (cow b hb).1)
  have f0 : ∀ b ∈ own ++ h₂.objs.size :: Qn sc h₃.objs.size, h₁.get? b = none := fun b hb => Zc (low b hb)
  have hn : ∀ b ∈ own ++ h₂.objs.size :: Qn sc h₃.objs.size, hT.get? b = none := fun b hb => by
   induction q : hT.get? b with
   | none => rfl
   | some o => have := S1.top b o q; rw [f0 b hb] at this; cases this
  have Xg : ∀ q ∈ env.cells, q.2 < h₁.objs.size := fun q hq => by
   obtain ⟨_, _, v, o, ho, _⟩ := R1.cells q hq
   exact RJ ho
  have K : CK hT A l (Q2 sc env h₃.objs.size) (Qn sc h₃.objs.size) own h₂.objs.size ρ₁ h₁ n := by
   refine ⟨f0, hn, fun b hb => (cow b hb).2, .head _, fun b hb => ⟨fun q => ?_, RQ (i0.low b hb).2⟩, fun q => ?_, X.sk.le x1, X.rm⟩
   ·rcases hows b q with q | ⟨z, hz, e⟩
    ·exact Sq _ (PZ (i0.low b hb).2 (Pq (by rw [hsD]; exact U5 _) (cow b q).1))
    ·exact Sq _ (PZ (Xg z hz) (e ▸ (i0.low b hb).1))
   ·rcases hows _ q with q | ⟨z, hz, e⟩
    ·have := (cow _ q).1
     rw [hsD] at this
     exact Sq _ (PZ (RU _) this)
    ·exact Sq _ (PZ (Xg z hz) (e ▸ hle))
  have X4 : CI w hT (Q2 sc env h₃.objs.size) (Qn sc h₃.objs.size) own h₂.objs.size ρ₁ h₁ src I 0 (σ.comp sc.names) ρ₁ μ₁ h₄ [] [] := by
   refine ⟨Le.of_keeps k14, S1.keeps k14, R4, it4, fun b hb q => ?_, ?_, .nil⟩
   ·exact Sq _ (PZ (S1.lt q) (low b hb))
   ·obtain ⟨m, ho⟩ := hD
    exact ⟨m, keep _ _ ho⟩
  obtain ⟨ys, μ₂, hys, hm2⟩ : ∃ ys μ₂, zV r src target ifs elt k 0 (σ.comp sc.names) μ₁ = some (.ok ys, μ₂) /\ jr ys μ₂ = some (res, μ') := by
   unfold qF at hm1
   induction q : zV r src target ifs elt k 0 (σ.comp sc.names) μ₁ with
   | none => rw [q] at hm1; exact no hm1
   | some z =>
     rw [q] at hm1
     obtain ⟨z, μ₂⟩ := z
     induction z with
     | error x => exact no hm1
     | ok ys => exact ⟨ys, μ₂, rfl, hm1⟩
  obtain ⟨hlen, hm3⟩ := zI hm2
  ·clear hm1 hm2
   have main : TC (MM w) A (.compLoop (.ListComp elt [⟨target, iter, ifs, 0⟩] sc pos) 0 (.ref I) (.ref h₂.objs.size) (Q2 sc env h₃.objs.size)) (compPost (MM w) A E use Q (.ref h₂.objs.size) h₃.objs.size) { s with heap := h₄, toks := tk } := by
    refine Zk (μ' := μ₂) (ys₀ := ys) G H K g3 hen (fun x hx => hMine x (g4 x hx)) hlen (fun h' tk' ρ' vs' a1 a2 a3 a4 a5 a6 a7 => ?_) k 0 (σ.comp sc.names) ρ₁ μ₁ h₄ tk [] [] ys X4 ht1 hys (U3 _)
    have hCm : h₃.objs.size ∈ own ++ h₂.objs.size :: Qn sc h₃.objs.size := Ra _ (.tail _ (.head _))
    have hDm : h₂.objs.size ∈ own ++ h₂.objs.size :: Qn sc h₃.objs.size := Ra _ (.head _)
    have hx : ∃ more, ρ' ++ [h₂.objs.size] = ρ' ++ more := ⟨_, rfl⟩
    have hCD : h₃.objs.size ≠ h₂.objs.size := by rw [hsD]; exact bz _
    obtain ⟨e1, e2⟩ := wU (show some ((.ok (.loc μ₂.length) : Except Exn PV), μ₂ ++ [.list ys]) = some (res, μ') from hm3)
    subst e1 e2
    have hbig : T1 < h₂.objs.size := by
     obtain ⟨⟨b, o, hb, ho⟩, _⟩ := S1.low
     exact PZ (b5 hb (RJ (S1.top _ _ ho))) hle
    refine fin _ _ h' tk' (ρ' ++ [h₂.objs.size]) _ rfl (x1.trans (a1.adopt (f0 _ hDm))) (a2.adopt (a5 _ (.head _)) (hn _ hDm) hbig ⟨by lia, vs', a3, a4.mono hx (Kv.of_keeps fun zz zz e => e)⟩) (.loc (jD a2)) (vB x1 (f0 _ hCm)) (fun q => ?_) (hn _ hCm) a6 a7
    rcases PU.mp q with q | q
    ·exact a5 _ (.tail _ (.head _)) q
    ·exact hCD (Pw.mp q)
   exact codeAny_compStart_list main (VR (s := { s with heap := h₄, toks := tk }) it4 main)
theorem EN {C : PE} {m : Str -> Option Pu} (hn : h.Ns C m) : NT [C] h := fun b hb o e hc => by
 rw [Pw.mp hb] at e
 obtain ⟨o', es, ep, ho', hd, _⟩ := hn
 rw [ho'] at e; cases e
 obtain ⟨_, vs, n, q⟩ := hc
 rw [hd] at q; cases q
theorem Z5 {elt : Expr} {gens : List TR} {sc : Un} {q : Except Exn PV × q4} (hm : eLC r σ elt gens sc μ = some q) : ∃ target iter ifs, gens = [⟨target, iter, ifs, 0⟩] /\ YM r σ elt target iter ifs sc μ = some q := by
 obtain ⟨⟨target, iter, ifs, k⟩, hg, hm⟩ := bnd hm
 obtain ⟨hk, hm⟩ := ifT hm
 dsimp only at hk hm
 exact ⟨target, iter, ifs, by rw [jM hg, hk], hm⟩
theorem Zn {elt : Expr} {gens : List TR} {sc : Un} {pos : Pos} (G : GF w hT) (H : j4 w hT r n) (X : Act w hT A l env σ ρ μ s.heap n) : Sim w hT A (Rv hT) ρ s (eval (.ListComp elt gens sc pos) env) (eLC r σ elt gens sc μ) := by
 intro ht r' μ' hm Q E P
 obtain ⟨target, iter, ifs, e, hm1⟩ := Z5 hm
 clear hm
 subst e
 rw [eval_ListComp]
 refine gx (use := none) G H X ht hm1 (fun e h' tk ρ' x e1 e2 e3 e4 e5 => P.err e h' tk ρ' x e1 e2 e3 e4 e5) fun D C h' tk ρ' p e1 x1 S1 rv hC0 hCρ hCT hns ht1 => ?_
 obtain ⟨m, hns⟩ := hns
 refine ⟨m, hns, fun h'' hs => ?_⟩
 have kb := KB.same hs
 have nt := EN hns
 refine P.ok _ h'' tk ρ' p e1 (Le.fin (own := [C]) (own' := []) x1.any (fun b hb => by rw [Pw.mp hb]; exact hC0) kb) (S1.kb (fun b hb => by rw [Pw.mp hb]; exact ⟨hCρ, hCT⟩) kb nt) (rv.mono ⟨[], (PS _).symm⟩ (kb.kv nt)) ht1
theorem Lo {op : ag} {x : Expr} {pos : Pos} (X : Act w hT A l env σ ρ μ s.heap n) : Sim w hT A (Rv hT) ρ s (eval (.UnaryOp op x pos) env) (eUn op x μ) := by
 induction op with
 | USub =>
   refine Sim.of0 fun r' μ' hm Q E P => ?_
   obtain ⟨i, hi, hm⟩ := bnd hm
   obtain ⟨c, hc, hi⟩ := bnd hi
   obtain ⟨k, p, e⟩ := xw hc
   rw [e, XK hi]
   exact wpAny_UnaryOp (U2 (PySem.P.neg_int (P.pret hm X.sr (.int _ _))))
 | _ => exact Sim.none
theorem Es {f : Expr} {args : List Expr} {kws : List SE} {pos : Pos} (G : GF w hT) (H : j4 w hT r n) (HC : jR w hT r n) (X : Act w hT A l env σ ρ μ s.heap (n + 1)) : Sim w hT A (Rv hT) ρ s (eval (.Call f args kws pos) env) (Hh r σ f args kws pos μ) := by
 induction f using PC with
 | Attribute o name apos => exact Fe G H HC X.down
 | Name f p => induction kws using PD with
   | nil => exact Gc G H HC X
   | cons _ _ => exact Sim.none
 | _ => exact Sim.none
theorem D4 (G : GF w hT) (g : j4 w hT r n) (gc : jR w hT r n) : ∀ A l env σ ρ μ s e, Act w hT A l env σ ρ μ s.heap (n + 1) -> Sim w hT A (Rv hT) ρ s (eval e env) (Jl r σ e μ) := by
 intro A l env σ ρ μ s e X
 induction e using PC with
 | Constant c k p => exact Xa X
 | Name x p => exact DS G X
 | Tuple es k p => exact KT g X.down
 | List es p => exact Cg g X.down
 | Dict ks vs p => exact DH g X.down
 | BinOp a op b p => exact KU g MH X.down
 | IfExp t a b p => exact G5 G g X.down
 | Subscript v i p => exact Jc g X.down
 | Attribute o nm p => exact Eo G g X.down
 | UnaryOp op x p => exact Lo X
 | BoolOp op vs p => exact NS g X.down
 | Compare a ops bs p => exact Y4 G g gc X.down
 | JoinedStr es p =>
   by_cases h : 2 <= es.length
   ·show Sim w hT A (Rv hT) ρ s _ ((if 2 <= es.length then zR r σ PF es else fun zz => none) μ)
    rw [if_pos h]; exact KD g X.down h
   ·show Sim w hT A (Rv hT) ρ s _ ((if 2 <= es.length then zR r σ PF es else fun zz => none) μ)
    rw [if_neg h]; exact Sim.none
 | Call f args kws p => exact Es G g gc X
 | ListComp elt gens sc p => exact Zn G g X.down
 | _ => exact Sim.none
end
abbrev Nw (w : Rk) (hT : PP) (r : Ev) (n : Nat) : Prop := ∀ A outer env σ ρ μ s y py elt gens sc pos, qL w hT A outer env σ ρ μ s.heap n ->
 j5 w hT A env ρ s ((aJ (.ListComp elt gens sc pos) sc env (firstIterPos gens pos) (newList []) (firstAsync gens) (firstIter gens env) (some (A3 (.Name y py) env)) >>= fun zz => pure ()) >>= fun zz => pure aj)
  (qC σ (r.ev σ (.ListComp elt gens sc pos) μ) fun v μ => kZ σ y v μ)
section
variable {w : Rk} {hT : PP} {A : RE} {l : List Env} {ρ ρ' ρ₀ : List PE} {μ μ₁ μ' : q4} {s : Py} {n : Nat} {env cenv : Env} {outer : List Env} {σ σ' : LE} {h h' h₀ : PP} {r : Ev}
theorem js (env : Env) (x : Str) : QN env (qy env) x := fun c hc => .tail _ (RS (f := (·.2)) (mem_of_lookup hc))
theorem fB {α : Type} {σ : LE} {m : PR α} {f : α -> q4 -> SR'} {q : Except Exn j6 × LE × q4} (h : qC σ m f = some q) :
 (∃ x μ, m = some (.error x, μ) /\ q = (.error x, σ, μ)) \/ (∃ a μ, m = some (.ok a, μ) /\ f a μ = some q) := by
 match m, h with
 | some (.error x, μ), h => cases h; exact .inl ⟨_, _, rfl, rfl⟩
 | some (.ok a, μ), h => exact .inr ⟨a, μ, rfl, h⟩
theorem FL (G : GF w hT) (g : j4 w hT r n) : ∀ A outer env σ ρ μ s y py elt gens sc pos, qL w hT A outer env σ ρ μ s.heap (n + 1) ->
 j5 w hT A env ρ s ((aJ (.ListComp elt gens sc pos) sc env (firstIterPos gens pos) (newList []) (firstAsync gens) (firstIter gens env) (some (A3 (.Name y py) env)) >>= fun zz => pure ()) >>= fun zz => pure aj)
  (qC σ (Jl r σ (.ListComp elt gens sc pos) μ) fun v μ => kZ σ y v μ) := by
 intro A outer env σ ρ μ s y py elt gens sc pos X ht r' σ' μ' hm Q E P
 have hnt : ∀ b ∈ qy env, hT.get? b = none := X.nt
 rcases fB hm with ⟨x, μ₁, h1, h2⟩ | ⟨v, μ₁, h1, h2⟩
 ·obtain ⟨target, iter, ifs, rfl, hc⟩ := Z5 h1
  cases h2
  refine wpAny_bind (wpAny_bind (gx (use := some (A3 (.Name y py) env)) (Q := fun zz s' => PQ (MM w) A (pure ()) (fun zz s'' => PQ (MM w) A (pure aj) Q E s'') E s') G g X.toAct.down ht hc (fun e h' tk ρ' x' e1 x1 S1 ex ht1 => ?_) fun D C h' tk ρ' p e1 => nomatch e1))
  cases e1
  exact P.err e h' tk ρ' x rfl x1.any S1 (X.er.le X.sr x1) ex.toS ht1
 ·obtain ⟨target, iter, ifs, rfl, hc⟩ := Z5 h1
  obtain ⟨σ₁, hp, h2⟩ := bnd h2
  obtain ⟨e1, e2, e3⟩ := NK h2
  clear h2
  subst e1 e2 e3
  refine wpAny_bind (wpAny_bind (gx (use := some (A3 (.Name y py) env)) (Q := fun zz s' => PQ (MM w) A (pure ()) (fun zz s'' => PQ (MM w) A (pure aj) Q E s'') E s') G g X.toAct.down ht hc (fun e h' tk ρ' x' e1 => nomatch e1) fun D C h' tk ρ' p e1 x1 S1 rv hC0 hCρ hCT hns ht1 => ?_))
  cases e1
  obtain ⟨m, hns⟩ := hns
  have R1 := X.er.le X.sr x1
  have hCo : C ∉ qy env := fun q => by
   obtain ⟨o, ho⟩ := X.er.there C q
   rw [hC0] at ho; cases ho
  show PQ (MM w) A (A3 (.Name y py) env (.ref D)) _ E _
  refine Ts (xC (own := qy env) (s := { s with heap := h', toks := tk }) ht1 S1 R1 rv hp hnt (.head _) (js env y) fun h₂ tk₂ x2 S2 R2 ht2 => ?_)
  refine ⟨m, x2.kp.ns hns hCρ hCo, fun h₃ hs => wpAny_pure (wpAny_pure ?_)⟩
  have kb := KB.same hs
  have nt : NT [C] h₂ := EN (x2.kp.ns hns hCρ hCo)
  have ff : ∀ b ∈ [C], s.heap.get? b = none := fun b hb => by rw [Pw.mp hb]; exact hC0
  exact P.ok .next h₃ tk₂ ρ' .next rfl (Le.fin (own := [C]) (own' := qy env) ((x1.any.trans x2).weaken fun b zz zz q => Ra _ q) ff kb) (S2.kb (fun b hb => by rw [Pw.mp hb]; exact ⟨hCρ, hCT⟩) kb nt)
   (R2.kb kb nt fun b hb => by rw [Pw.mp hb]; exact hCo) .next ht2
end
structure jh (w : Rk) (hT : PP) (r : Ev) (n : Nat) : Prop where
 ev : j4 w hT r n
 ex : Qs w hT r n
 call : jR w hT r n
 use : Nw w hT r n
section
variable {w : Rk} {hT : PP} {A : RE} {l : List Env} {ρ ρ' ρ₀ : List PE} {μ μ₁ μ' : q4} {s : Py} {n : Nat} {env cenv : Env} {outer : List Env} {σ σ' : LE} {h h' h₀ : PP} {r : Ev}
theorem qL.down (X : qL w hT A outer env σ ρ μ h (n + 1)) : qL w hT A outer env σ ρ μ h n := ⟨X.toAct.down, X.fr, X.ap, X.nt⟩
theorem Sim.thenS {α β : Type} {rel : List PE -> PP -> α -> β -> Prop} {t : Sem α} {m : PR β} {f : β -> q4 -> SR'} {res : Except Exn j6} {Q : A9 -> Py -> Prop} {Q' : α -> Py -> Prop} {E : Pu -> Py -> Prop}
 (S : Sim w hT A rel ρ s t m) (X : qL w hT A outer env σ ρ μ s.heap n) (ht : 1 <= s.toks) (hm : qC σ m f = some (res, σ', μ')) (P : jT w hT env ρ s res σ' μ' Q E)
 (k : ∀ a h' tk ρ' b μ₁, Le [] ρ s.heap ρ' h' -> SR w hT ρ' μ₁ h' -> rel ρ' h' a b -> 1 <= tk -> f b μ₁ = some (res, σ', μ') -> jT w hT env ρ' { s with heap := h', toks := tk } res σ' μ' Q E -> qL w hT A outer env σ ρ' μ₁ h' n -> Q' a { s with heap := h', toks := tk }) :
 PQ (MM w) A t Q' E s := by
 rcases fB hm with ⟨x, μ₁, h1, h2⟩ | ⟨b, μ₁, h1, h2⟩
 ·cases h2
  refine S ht _ _ h1 Q' E ⟨fun a h' tk ρ' b e => (nomatch e), fun e h' tk ρ' y hy le sr ex ht' => ?_⟩
  cases hy
  exact P.err e h' tk ρ' x rfl le.any sr (X.er.le X.sr le) ex.toS ht'
 ·refine S ht _ _ h1 Q' E ⟨fun a h' tk ρ' b' hb le sr rv ht' => ?_, fun e h' tk ρ' y hy => (nomatch hy)⟩
  cases hb
  exact k a h' tk ρ' _ μ₁ le sr rv ht' h2 (P.le le.any) (X.le le sr)
theorem jT.of {r₁ res : Except Exn j6} {σ₁ : LE} {μ₁ : q4} {Q : A9 -> Py -> Prop} {E : Pu -> Py -> Prop} (P : jT w hT env ρ s res σ' μ' Q E) (hm : some (r₁, σ₁, μ₁) = some (res, σ', μ')) : jT w hT env ρ s r₁ σ₁ μ₁ Q E := by
 cases hm; exact P
theorem j5.none {t : Sem A9} : j5 w hT A env ρ s t none := fun zz zz zz zz hm => no hm
theorem gt {x : Str} {p : PV} {v : Pu} {res : Except Exn j6} {σ₁ : LE} {Q : A9 -> Py -> Prop} {E : Pu -> Py -> Prop} (X : qL w hT A outer env σ ρ μ s.heap n) (ht : 1 <= s.toks) (rv : Rv hT ρ s.heap v p) (hm : kZ σ x p μ = some (res, σ₁, μ'))
 (P : jT w hT env ρ s res σ₁ μ' Q E) : PQ (MM w) A (storeName env x v) (fun zz => Q .next) E s := by
 obtain ⟨σ₂, hp, e⟩ := bnd hm
 exact xC (own := qy env) ht X.sr X.er rv hp X.nt (.head _) (js env x) fun h' tk x1 S1 R1 ht1 => (P.of e).ok .next h' tk ρ .next rfl x1 S1 R1 .next ht1
set_option tactic.hygienic true in
theorem Yn {value : Expr} {x : Str} {p : Pos} {line : Nat} (h : g0 value = false) : (∃ elt gens sc pos, value = .ListComp elt gens sc pos /\ swapsWith value (some (.Name x p)) line env = pure true) \/ swapsWith value (some (.Name x p)) line env = pure false := by
 induction value using PC <;> first | exact noB h.symm | exact .inr rfl | skip
 rename_i elt gens sc pos
 unfold swapsWith
 cases hb : (env.blockKind == .function && env.kindOf x == some .local && p.line == (Expr.ListComp elt gens sc pos).pos.line && !(sc.names.any fun (n, k) => n == x && (k == .local || k == .cell))) with
 | true => exact .inl ⟨elt, gens, sc, pos, rfl, by show (pure _ : Sem Bool) = _; rw [hb]⟩
 | false => exact .inr (by show (pure _ : Sem Bool) = _; rw [hb])
theorem gL {x : Str} {xp pos : Pos} {e : Expr} (g : jh w hT r n) (X : qL w hT A outer env σ ρ μ s.heap n) : j5 w hT A env ρ s (Ac (.Assign [.Name x xp] e pos) env) (if g0 e then none else qC σ (r.ev σ e μ) (kZ σ x)) := by
 intro ht res σ' μ' hm Q E P
 obtain ⟨hc, hm1⟩ := ifB hm
 clear hm
 rcases Yn (env := env) (x := x) (p := xp) (line := pos.line) hc with ⟨elt, gens, sc, cpos, rfl, hsw⟩ | hsw
 ·rw [exec_Assign_Name_used _ _ _ _ hsw]
  refine wpAny_bind (wpAny_standAt ?_)
  have := g.use A outer env σ ρ μ s x xp elt gens sc cpos X ht res σ' μ' hm1 Q E P
  refine RG (show PQ (MM w) A (evalThenUse (.ListComp elt gens sc cpos) env (A3 (.Name x xp) env) >>= fun zz => pure aj) Q E s from ?_) (fun zz zz q => q) fun zz zz q => q
  exact this
 ·exact wpAny_Assign_Name ((g.ev A _ env σ ρ μ s e X.toAct).thenS X ht hm1 P fun v h₁ tk₁ ρ₁ p μ₁ x1 S1 rv ht1 hm1 P1 X1 => gt X1 ht1 rv hm1 P1) hsw
theorem QK {it t : PE} {items : Array Pu} {E : Pu -> Py -> Prop} (hne : t ≠ it) : ∀ (n i : Nat) (s : Py) (Q : List Pu -> Py -> Prop), s.heap.IsListIter it t i -> s.heap.IsList t items -> i + n <= items.size ->
 (∀ h', h'.IsListIter it t (i + n) -> RK it s.heap h' -> Q ((items.toList.drop i).take n) { s with heap := h' }) -> PQ (MM w) A (draw (.ref it) n) Q E s
 | 0, i, s, Q, hit, _, _, hQ => by
   show PQ _ _ (pure []) Q E s
   exact wpAny_pure (by simpa using hQ s.heap hit (RK.refl ..))
 | n + 1, i, s, Q, hit, ht, hle, hQ => by
   have hlt : i < items.size := by lia
   show PQ _ _ (cf (.ref it) >>= _) Q E s
   refine wpAny_bind (Ud hit ht (x := items[i]) (by simp [hlt]) fun h₁ hit₁ hs₁ => ?_)
   refine wpAny_bind (wpAny_holding (QK hne n (i + 1) _ _ hit₁ (ht.extBut hs₁.extBut hne) (by lia) fun h₂ hit₂ hs₂ => wpAny_pure ?_))
   have hd : items.toList.drop i = items[i] :: items.toList.drop (i + 1) := by simp [S9, hlt]
   have := hQ h₂ (by rw [show i + (n + 1) = i + 1 + n by lia]; exact hit₂) (hs₁.trans hs₂)
   rw [hd, List.take_succ_cons] at this
   exact this
theorem vf {t : PE} {items : Array Pu} {Q : Bool -> Py -> Prop} {E : Pu -> Py -> Prop} (ht : s.heap.IsList t items) (h : Q false s) : PQ (MM w) A (notIterableAtAll (.ref t)) Q E s := by
 unfold notIterableAtAll
 refine wpAny_bind (TX ht.typeIs slot_list_iter.lookup ?_)
 exact wpAny_pure h
theorem Xn {t : PE} {items : Array Pu} {Q : List Pu -> Py -> Prop} {E : Pu -> Py -> Prop} (hh : A.handled = none) (ht : s.heap.IsList t items)
 (hQ : ∀ h', PP.ExtBut s.heap.objs.size s.heap h' -> Q items.toList { s with heap := h' }) : PQ (MM w) A (AX (.ref t) items.size none) Q E s := by
 have hlt : t ≠ s.heap.objs.size := by obtain ⟨o, ho, _⟩ := ht; exact RQ (RJ ho)
 unfold AX
 refine wpAny_bind (vf ht ?_)
 simp only [R7, if_false]
 refine wpAny_bind (wpAny_holding (UW ht ?_))
 have htp : (s.heap.push { cls := .type "list_iterator", data := .fields #[.ref t, .int 0 0] }).IsList t items := let ⟨o, ho, r⟩ := ht; ⟨o, qg _ _ _ _ ho, r⟩
 refine wpAny_bind (wpAny_holding (QK hlt items.size 0 _ _ ⟨_, Rg _ rfl, rfl, rfl⟩ htp (by lia) fun h₁ hit₁ hs₁ => ?_))
 have hall : cq items.size (List.drop 0 items.toList) = items.toList := by
  rw [Ad]; exact Tg (by simp)
 rw [hall]
 rw [if_neg (by simp)]
 have ht₁ : h₁.IsList t items := htp.extBut hs₁.extBut hlt
 refine wpAny_bind (wpAny_holding (Uh hh hit₁ ht₁ (by simp) fun h₂ he₂ => ?_))
 simp only [Td, R7, if_false]
 refine wpAny_pure (hQ h₂ fun b o hb e => he₂ b o hb (hs₁.extBut b o hb (Ah _ e)))
theorem Z7 {t : PE} {v : Pu} {Q : List Pu -> Py -> Prop} {E : Pu -> Py -> Prop} (hh : A.handled = none) (ht : s.heap.IsList t #[v])
 (hE : ∀ h' tk e, bG s.heap h' e "ValueError" -> E (.ref e) { s with heap := h', toks := tk }) : PQ (MM w) A (AX (.ref t) 2 none) Q E s := by
 have hlt : t ≠ s.heap.objs.size := by obtain ⟨o, ho, _⟩ := ht; exact RQ (RJ ho)
 unfold AX
 refine wpAny_bind (vf ht ?_)
 simp only [R7, if_false]
 refine wpAny_bind (wpAny_holding (UW ht ?_))
 have htp : (s.heap.push { cls := .type "list_iterator", data := .fields #[.ref t, .int 0 0] }).IsList t #[v] := let ⟨o, ho, r⟩ := ht; ⟨o, qg _ _ _ _ ho, r⟩
 have hit0 : (s.heap.push { cls := .type "list_iterator", data := .fields #[.ref t, .int 0 0] }).IsListIter s.heap.objs.size t 0 := ⟨_, Rg _ rfl, rfl, rfl⟩
 refine wpAny_bind (wpAny_holding ?_)
 show PQ _ _ (cf (.ref s.heap.objs.size) >>= _) _ _ _
 refine wpAny_bind (Ud hit0 htp (x := v) (by simp) fun h₁ hit₁ hs₁ => ?_)
 refine wpAny_bind (wpAny_holding ?_)
 show PQ _ _ (cf (.ref s.heap.objs.size) >>= _) _ _ _
 have ht₁ : h₁.IsList t #[v] := htp.extBut hs₁.extBut hlt
 refine wpAny_bind (Uh hh hit₁ ht₁ (by simp) fun h₂ he₂ => ?_)
 refine wpAny_pure (wpAny_pure ?_)
 rw [if_pos (by simp)]
 refine wpAny_bind (aP ?_)
 have keep : ∀ b o, s.heap.get? b = some o -> h₂.get? b = some o := fun b o e => by
  have hb : b ≠ s.heap.objs.size := RQ (RJ e)
  exact he₂ b o hb (hs₁.extBut b o hb (qg _ _ _ _ e))
 refine wpAny_bind ?_
 refine wpAny_raiseErrorMade plainExc_ValueError hh (fun h' tk e hn => ?_) (by show (Pv (bg "not enough values to unpack (expected " ++ bg 2 ++ bg ", got " ++ bg 1 ++ bg ")")).length <= Pr; decide +kernel)
 refine hE h' tk e ?_
 obtain ⟨k, nw, ob, t', e1, e2, e3⟩ := hn
 refine ⟨fun b o q => k b o (keep b o q), ?_, ob, t', e1, e2, e3⟩
 induction q : s.heap.get? e with
 | none => rfl
 | some o => rw [keep _ _ q] at nw; cases nw
theorem VC {e : Expr} {line : Nat} (h : JE e = false) : swapsWith e none line env = pure false := by induction e using PC <;> first | rfl | exact noB h.symm
theorem JC {v : Pu} {p : PV} (r : Rv hT ρ h v p) (hp : vj p = true) {Q : Pu -> Prop} (hn : Q .none) (hb : ∀ b, Q (.bool b)) (hi : ∀ i t, Q (.int i t)) (hs : ∀ x t, Q (.str x t)) : Q v := by
 cases r <;> first | exact noB hp | exact hn | exact hb _ | exact hi _ _ | exact hs _ _
theorem Ew {e : Expr} {pos : Pos} (g : jh w hT r n) (X : qL w hT A outer env σ ρ μ s.heap n) : j5 w hT A env ρ s (Ac (.Expr e pos) env) (if JE e then none else qC σ (r.ev σ e μ) fun v μ => if vj v then zh σ .next μ else none) := by
 intro ht res σ' μ' hm Q E P
 obtain ⟨hc, hm1⟩ := ifB hm
 refine wpAny_Expr ?_ (by unfold interactive; rw [X.er.kind]; rfl) (VC hc)
 refine (g.ev A _ env σ ρ μ s e X.toAct).thenS X ht hm1 P fun v h₁ tk₁ ρ₁ p μ₁ x1 S1 rv ht1 hm1 P1 X1 => ?_
 obtain ⟨hp, hm2⟩ := ifT hm1
 have fin := (P1.of hm2).ok .next h₁ tk₁ ρ₁ .next rfl (Le.refl _ _ _) S1 X1.er .next ht1
 exact JC (Q := fun v => match v with | .ref _ => False | _ => Q .next { s with heap := h₁, toks := tk₁ }) rv hp fin (fun zz => fin) (fun zz zz => fin) (fun zz zz => fin)
theorem Kj {e : Expr} {pos : Pos} (g : jh w hT r n) (X : qL w hT A outer env σ ρ μ s.heap n) : j5 w hT A env ρ s (Ac (.Return (some e) pos) env) (qC σ (r.ev σ e μ) fun v => zh σ (.ret v)) := by
 intro ht res σ' μ' hm Q E P
 exact wpAny_Return_some ((g.ev A _ env σ ρ μ s e X.toAct).thenS X ht hm P fun v h₁ tk₁ ρ₁ p μ₁ x1 S1 rv ht1 hm1 P1 X1 => (P1.of hm1).ok (.ret v) h₁ tk₁ ρ₁ (.ret p) rfl (Le.refl _ _ _) S1 X1.er (.ret rv) ht1)
theorem Xp {pos : Pos} (X : qL w hT A outer env σ ρ μ s.heap n) : j5 w hT A env ρ s (Ac (.Continue pos) env) (zh σ .cont μ) :=
 fun ht res σ' μ' hm Q E P => wpAny_Continue ((P.of hm).ok .cont s.heap s.toks ρ .cont rfl (Le.refl _ _ _) X.sr X.er .cont ht)
theorem Nf {t : Expr} {b o : List Sf} {pos : Pos} (G : GF w hT) (g : jh w hT r n) (X : qL w hT A outer env σ ρ μ s.heap n) : j5 w hT A env ρ s (Ac (.If t b o pos) env) (qC σ (xj r σ t μ) fun c μ => if c then r.ex σ b μ else r.ex σ o μ) := by
 intro ht res σ' μ' hm Q E P
 refine wpAny_If ((fm G g.ev t X.toAct).thenS X ht hm P fun c h₁ tk₁ ρ₁ c' μ₁ x1 S1 rv ht1 hm1 P1 X1 => ?_)
 subst rv
 induction c with
 | true => exact g.ex A outer env σ ρ₁ μ₁ { s with heap := h₁, toks := tk₁ } b X1 ht1 _ _ _ hm1 Q E P1
 | false => exact g.ex A outer env σ ρ₁ μ₁ { s with heap := h₁, toks := tk₁ } o X1 ht1 _ _ _ hm1 Q E P1
theorem XN {x y : Str} {xp yp pos : Pos} {e : Expr} (g : jh w hT r n) (X : qL w hT A outer env σ ρ μ s.heap n) : j5 w hT A env ρ s (Ac (.Assign [.Name x xp, .Name y yp] e pos) env) (qC σ (r.ev σ e μ) fun v μ => (σ.put x v).bind fun σ => kZ σ y v μ) := by
 intro ht res σ' μ' hm Q E P
 refine wpAny_Assign_two ((g.ev A _ env σ ρ μ s e X.toAct).thenS X ht hm P fun v h₁ tk₁ ρ₁ p μ₁ x1 S1 rv ht1 hm1 P1 X1 => bK hm1 fun σ₁ hp1 hm2 => ?_)
 refine Ts (xC (own := qy env) (s := { s with heap := h₁, toks := tk₁ }) ht1 X1.sr X1.er rv hp1 X1.nt (.head _) (js env x) fun h₂ tk₂ x2 S2 R2 ht2 => Ts ?_)
 have X2 := X1.leOwn x2 S2 R2
 have rv2 := rv.mono (ρ' := ρ₁) ⟨[], (PS _).symm⟩ (X1.sr.kv X1.er.ownOK x2)
 exact gt (s := { s with heap := h₂, toks := tk₂ }) X2 ht2 rv2 hm2 (P1.le (s := { s with heap := h₁, toks := tk₁ }) (tk := tk₂) x2)
theorem fg {t : Expr} {ts : List Expr} (h : qf t = false) : Tx (t :: ts) env = (false, A3 t env) :: Tx ts env := by induction t using PC <;> first | rfl | cases h
theorem vL (ts : List Expr) : ts.any qf = false -> (Tx ts env).length = ts.length /\ (Tx ts env).findIdx? (·.1) = none := by
 induction ts with
 | nil => exact fun zz => ⟨rfl, rfl⟩
 | cons t ts ih =>
   intro h
   have h := orF h
   rw [fg h.1]
   exact ⟨congrArg (· + 1) (ih h.2).1, by rw [aX, (ih h.2).2]; rfl⟩
theorem W7 {ts : List Expr} {k : Nat} {tp : Pos} {v : Pu} {p : PV} {res : Except Exn j6} {Q : A9 -> Py -> Prop} {E : Pu -> Py -> Prop} (X : qL w hT A outer env σ ρ μ s.heap n) (ht : 1 <= s.toks) (hst : ts.any qf = false) (rv : Rv hT ρ s.heap v p) (hm : xv σ ts p μ = some (res, σ', μ')) (P : jT w hT env ρ s res σ' μ' Q E) :
 PQ (MM w) A (A3 (.Tuple ts k tp) env v) (fun zz => Q .next) E s := by
 obtain ⟨a1, a2⟩ := vL (env := env) ts hst
 unfold xv Jx at hm
 induction hp : wB p with
 | some ll =>
   rw [hp] at hm
   by_cases hl : ll.length = ts.length
   ·induction hgo : vJ σ ts ll with
    | none => simp only [if_pos hl, hgo] at hm; exact no hm
    | some σ₂ =>
      simp only [if_pos hl, hgo] at hm
      have P := P.of (show some ((.ok .next : Except Exn j6), σ₂, μ) = _ from hm)
      have ep := QM hp
      subst ep
      exact w7 (own := qy env) (target := .Tuple ts k tp) (show qu σ (.Tuple ts k tp) (.tup ll) = _ from hgo) X.rm.1 ht X.sr X.er rv X.nt (fun zz q => q) (.head _) (fun x zz => js env x) fun h₂ tk₂ x2 S2 R2 ht2 => P.ok .next h₂ tk₂ ρ .next rfl x2 S2 R2 .next ht2
   ·simp only [if_neg hl] at hm; exact no hm
 | none =>
   rw [hp] at hm
   induction hl : j3 μ p with
   | none => rw [hl] at hm; exact no hm
   | some ll =>
   rw [hl, PL] at hm
   obtain ⟨a, _, vs, _, _, e, hpl, hv, hlv, _⟩ := rv.list X.sr hl
   clear hp hl rv
   subst e
   rw [arm_assign_Tuple]
   by_cases h1 : ll.length = 1 /\ ts.length = 2
   ·simp only [if_pos h1] at hm
    have P := P.of hm
    rw [h1.1] at hlv
    refine jk ht (wpAny_bind (wpAny_standAt ?_))
    unfold unpack
    rw [a1, a2, h1.2]
    clear hv hm h1 a1 a2
    revert hpl
    refine gE (P := fun vs => s.heap.PlainList a vs.toArray -> _) (fun u hpl => ?_) vs hlv
    refine wpAny_bind (wpAny_holding (Z7 X.rm.1 (PlainList.isList hpl) fun h₂ tk₂ ex hn ht2 => ?_))
    have x2 : Le [] ρ s.heap ρ h₂ := Le.of_keeps hn.keeps
    exact P.err ex h₂ tk₂ ρ _ rfl x2.any (X.sr.keeps hn.keeps) (X.er.le X.sr x2) (ww.ofNew hn).toS ht2
   ·by_cases h2 : ll.length = ts.length
    ·induction hgo : vJ σ ts ll with
     | none => simp only [if_neg h1, if_pos h2, hgo] at hm; exact no hm
     | some σ₂ =>
       simp only [if_neg h1, if_pos h2, hgo] at hm
       have P := P.of (show some ((.ok .next : Except Exn j6), σ₂, μ) = _ from hm)
       refine wpAny_bind (wpAny_standAt ?_)
       unfold unpack
       rw [a1, a2, show ts.length = vs.toArray.size from (hlv.trans h2).symm]
       refine wpAny_bind (wpAny_holding (Xn X.rm.1 (PlainList.isList hpl) fun h₂ hext => ?_))
       have keep : ∀ b o, s.heap.get? b = some o -> h₂.get? b = some o := fun b o q => hext b o (RQ (RJ q)) q
       have x2 : Le [] ρ s.heap ρ h₂ := Le.of_keeps keep
       have X2 := X.le x2 (X.sr.keeps keep)
       exact Fm (own := qy env) (s := { s with heap := h₂ }) X2.nt (fun zz q => q) (.head _) ts hgo ht X2.sr X2.er (hv.mono (ρ' := ρ) ⟨[], (PS _).symm⟩ (Kv.of_keeps keep)) (fun x zz => js env x) fun h₃ tk₃ x3 S3 R3 ht3 => P.ok .next h₃ tk₃ ρ .next rfl (x2.any.trans x3) S3 R3 .next ht3
    ·simp only [if_neg h1, if_neg h2] at hm; exact no hm
theorem gF {ts : List Expr} {k : Nat} {tp pos : Pos} {e : Expr} (g : jh w hT r n) (X : qL w hT A outer env σ ρ μ s.heap n) (he : zu e = false) : j5 w hT A env ρ s (Ac (.Assign [.Tuple ts k tp] e pos) env) (if ts.any qf then none else qC σ (r.ev σ e μ) (xv σ ts)) := by
 intro ht res σ' μ' hm Q E P
 obtain ⟨hst, hm1⟩ := ifB hm
 exact Assign_Tuple ((g.ev A _ env σ ρ μ s e X.toAct).thenS X ht hm1 P fun v h₁ tk₁ ρ₁ p μ₁ x1 S1 rv ht1 hm1 P1 X1 => W7 X1 ht1 hst rv hm1 P1) (by cases e <;> rfl) (by cases e <;> first | rfl | cases he)
end
section
open PySem.Builtin
section
variable {w : Rk} {hT : PP} {A : RE} {l : List Env} {ρ ρ' ρ₀ : List PE} {μ μ₁ μ' : q4} {s : Py} {n : Nat} {env cenv : Env} {outer : List Env} {σ σ' : LE} {h h' h₀ : PP} {r : Ev}
theorem ZG {value o i : Expr} {p : Pos} {line : Nat} : swapsWith value (some (.Subscript o i p)) line env = pure false := by induction value using PC <;> rfl
theorem VK {value o : Expr} {a : Str} {p : Pos} {line : Nat} : swapsWith value (some (.Attribute o a p)) line env = pure false := by induction value using PC <;> rfl
theorem Qk {l m sl : PE} {xs ys : List Pu} {Q : Unit -> Py -> Prop} {E : Pu -> Py -> Prop} (hlm : l ≠ m) (hl : s.heap.PlainList l xs.toArray) (hm : s.heap.IsList m ys.toArray) (hs : s.heap.IsSliceOf sl .none .none .none)
 (hx : xs.length <= Pr) (hy : xs.length + ys.length <= Pr)
 (h : ∀ h', h'.PlainList l ys.toArray -> RK l s.heap h' -> Q () { s with heap := h' }) : PQ (MM w) A (bf (.ref l) (.ref sl) (.ref m)) Q E s := by
 obtain ⟨c, ho⟩ := id hl
 obtain ⟨om, hom, hcm, cm, hdm⟩ := id hm
 obtain ⟨os, hos, hcs, hds⟩ := id hs
 have hTs : s.TypeIs (.ref sl) "slice" := ⟨os, hos, hcs⟩
 have hTl : s.TypeIs (.ref l) "list" := ⟨_, ho, rfl⟩
 have e24 : Pr = 16777216 := by decide
 unfold bf
 refine wpAny_holding ?_
 refine wpAny_bind (wpAny_sequenceKey hTl (by decide) ?_)
 refine wpAny_bind (wpAny_callSpecial?_slot (name := Pv "__setitem__") hTl Ae
  (wpAny_call_entry Ae hTl PySem.entry_list_setitem ?_ (PySem.args_list_setitem _ _ _)))
 show PQ _ _ (UA (.ref sl) >>= _) _ _ s
 refine wpAny_bind ?_
 unfold UA
 refine wpAny_bind (TX hTs slice_no_index ?_)
 simp only [Option.isNone_none, if_true]
 refine wpAny_pure ?_
 show PQ _ _ (cr (.ref sl) >>= _) _ _ s
 refine wpAny_bind (wpAny_typeOf hTs ?_)
 rw [if_neg (by decide)]
 rw [listSliceParts_eq]
 refine wpAny_bind (wpAny_bind (Uo hos hds (x := .none) rfl (wpAny_bind (AY (.none : IsPart .none none) ?_))))
 rw [if_neg (show ¬ ((rawPart none == AS 0) = true) from Te)]
 refine wpAny_bind (Uo hos hds (x := .none) rfl (wpAny_bind (AY (.none : IsPart .none none) ?_)))
 refine wpAny_bind (Uo hos hds (x := .none) rfl (wpAny_bind (AY (.none : IsPart .none none) (wpAny_pure ?_))))
 have hsr : A4 (.ref l) (.ref m) = false := by simp [A4, hlm]
 rw [hsr, if_neg (by decide)]
 refine wpAny_bind ?_
 unfold TY.List.listAllItems
 refine wpAny_bind (wpAny_typeOf (T := "list") ⟨om, hom, hcm⟩ ?_)
 rw [if_pos (by decide)]
 unfold TY.List.listItems
 refine wpAny_bind (AR hom hdm (wpAny_pure ?_))
 refine wpAny_bind (wpAny_bind (AR ho rfl (wpAny_pure ?_)))
 refine wpAny_bind (UV (sliceIndices_raw none none none xs.toArray.size (by simp)) ?_)
 have hsb : Sz none none none xs.toArray.size = (0, (xs.toArray.size : Int), 1) := rfl
 rw [hsb]
 rw [if_pos (by rfl)]
 refine wpAny_bind (aP ?_)
 rw [if_neg (by simp only [RV, UZ, decide_eq_true_eq]; lia)]
 refine wpAny_bind ?_
 have hf : (fun zs : Array Pu => zs.extract 0 (0 : Int).toNat ++ ys.toArray ++ zs.extract (max (0 : Int) (xs.toArray.size : Int)).toNat zs.size) xs.toArray = ys.toArray := by
  have e1 : (max (0 : Int) (xs.toArray.size : Int)).toNat = xs.toArray.size := by rw [Int.max_eq_right (UI _)]; exact Ue _
  have e2 : xs.toArray.extract xs.toArray.size xs.toArray.size = #[] := by apply UE; simp
  have e3 : xs.toArray.extract 0 (0 : Int).toNat = #[] := by apply UE; simp
  show xs.toArray.extract 0 (0 : Int).toNat ++ ys.toArray ++ xs.toArray.extract (max (0 : Int) (xs.toArray.size : Int)).toNat xs.toArray.size = ys.toArray
  rw [e1, e2, e3]
  simp
 show PQ _ _ (updateSeq l (fun zs : Array Pu => zs.extract 0 (0 : Int).toNat ++ ys.toArray ++ zs.extract (max (0 : Int) (xs.toArray.size : Int)).toNat zs.size)) _ _ _
 generalize (fun zs : Array Pu => zs.extract 0 (0 : Int).toNat ++ ys.toArray ++ zs.extract (max (0 : Int) (xs.toArray.size : Int)).toNat zs.size) = f at hf
 refine wpAny_updateSeq (hz := by simp only [RV]; exact hx) (_hz' := by rw [hf]; simp only [RV]; lia) ho rfl ?_
 refine wpAny_bind (wpAny_letGo ?_)
 have hmap : bZ f { cls := .type "list", data := .seq xs.toArray c } = { cls := .type "list", data := .seq (f xs.toArray) (if (f xs.toArray).size == xs.toArray.size then c else c + 1) } := rfl
 rw [hf] at hmap
 exact wpAny_pure ⟨.none, rfl, wpAny_pure (h _ ⟨_, (SP _ ho (by rw [hmap]; rfl)).trans (congrArg some hmap)⟩ (TI ..))⟩
end
end
section
open PySem.Builtin
section
variable {w : Rk} {hT : PP} {A : RE} {l : List Env} {ρ ρ' ρ₀ : List PE} {μ μ₁ μ' : q4} {s : Py} {n : Nat} {env cenv : Env} {outer : List Env} {σ σ' : LE} {h h' h₀ : PP} {r : Ev}
theorem VX {m1 : Nat} {a v : Pu} {q p : PV} {sl : PE} {res : Except Exn j6} {Q : A9 -> Py -> Prop} {E : Pu -> Py -> Prop} (X : qL w hT A outer env σ ρ μ s.heap m1) (ht : 1 <= s.toks) (ra : Rv hT ρ s.heap a q) (rv : Rv hT ρ s.heap v p) (hs : s.heap.IsSliceOf sl .none .none .none) (hm : gk σ q p μ = some (res, σ', μ')) (P : jT w hT env ρ s res σ' μ' Q E) :
 PQ (MM w) A (bf a (.ref sl) v) (fun zz => Q .next) E s := by
 obtain ⟨n, h1, hm⟩ := bnd hm
 obtain ⟨m, h2, hm⟩ := bnd hm
 obtain ⟨l₀, hl0, hm⟩ := bnd hm
 obtain ⟨l, hl, hm⟩ := bnd hm
 obtain ⟨hc, hm⟩ := ifF hm
 obtain ⟨a, rfl, hn⟩ := ra.lI h1
 obtain ⟨b, rfl, hm'⟩ := rv.lI h2
 obtain ⟨b0, vs0, hp0, hv0⟩ := X.sr.listAt hn hl0
 obtain ⟨b1, vs1, hp1, hv1⟩ := X.sr.listAt hm' hl
 have hc2 := Sh.mp fun z => hc (.inr z)
 refine Qk (xs := vs0) (ys := vs1) (fun z => hc (.inl (vH X.sr.nodup hn (z ▸ hm')))) hp0 (PlainList.isList hp1) hs (by rw [hv0.length]; exact Pq (Rd _ _) hc2) (by rw [hv0.length, hv1.length]; exact hc2) fun h₄ hp4 hs4 => ?_
 have hin : a ∈ ρ := Rr hn
 have x4 : Le [] ρ s.heap ρ h₄ := Le.set hin hs4 (let ⟨_, z⟩ := hp4; ⟨_, z⟩)
 exact (P.of hm).ok .next h₄ s.toks ρ .next rfl x4.any (X.sr.set (c := .list l) hn hs4 ⟨Ru (Pq (Uu _ _) hc2), vs1, hp4, hv1.mono (ρ' := ρ) ⟨[], (PS _).symm⟩ (X.sr.kvSet hin hs4)⟩) (X.er.le X.sr x4) .next ht
theorem Qg {o e : Expr} {p1 p2 pos : Pos} (g : jh w hT r n) (X : qL w hT A outer env σ ρ μ s.heap n) : j5 w hT A env ρ s (Ac (.Assign [.Subscript o (.Slice none none none p1) p2] e pos) env) (Ji r σ o e μ) := by
 intro ht res σ' μ' hm Q E P
 refine wpAny_Assign_Subscript ?_ ZG
 refine (g.ev A _ env σ ρ μ s e X.toAct).thenS X ht hm P fun v h₁ tk₁ ρ₁ p μ₁ x1 S1 rv ht1 hm1 P1 X1 => ?_
 refine (g.ev A _ env σ ρ₁ μ₁ { s with heap := h₁, toks := tk₁ } o X1.toAct).thenS X1 ht1 hm1 P1 fun a h₂ tk₂ ρ₂ q μ₂ x2 S2 ra ht2 hm2 P2 X2 => wpAny_Slice ?_
 rw [aF]
 refine wpAny_pure (wpAny_pure (wpAny_pure ?_))
 have hk := qg h₂ { cls := .type "slice", data := .fields #[.none, .none, .none] }
 have x3 : Le [] ρ₂ h₂ ρ₂ (h₂.push { cls := .type "slice", data := .fields #[.none, .none, .none] }) := Le.of_keeps hk
 have S3 := S2.keeps hk
 exact VX (s := { s with heap := h₂.push { cls := .type "slice", data := .fields #[.none, .none, .none] }, toks := tk₂ }) (X2.le x3 S3) ht2 (ra.le S2 x3) ((rv.le S1 x2).le S2 x3) (aU ..) hm2 (P2.le (s := { s with heap := h₂, toks := tk₂ }) (tk := tk₂) x3.any)
set_option tactic.hygienic true in
theorem VG {kvs : List (Str × Pu)} {l : Loc} {k : Str} {v : Pu} {p : PV} (x : RvD hT ρ h kvs l) (rv : Rv hT ρ h v p) : RvD hT ρ h (stored kvs k v) (qR l k p) := by
 have hk := x.keys
 have hany : kvs.any (fun kv => kv.1 = k) = l.any (fun kv => kv.1 = k) := by
  have e1 : kvs.any (fun kv => kv.1 = k) = (kvs.map (·.1)).any (fun z => z = k) := by rw [An]; rfl
  have e2 : l.any (fun kv => kv.1 = k) = (l.map (·.1)).any (fun z => z = k) := by rw [An]; rfl
  rw [e1, e2, hk]
 unfold stored qR
 rw [hany]
 split
 ·rename_i hh
  clear hany hk hh
  induction x with
  | nil => exact .nil
  | @cons k' v' p' vs ps a b ih =>
    simp only [RO]
    by_cases hq : k' = k
    ·simp only [if_pos hq]; exact .cons rv ih
    ·simp only [if_neg hq]; exact .cons a ih
 ·rename_i hh
  clear hany hk hh
  induction x with
  | nil => exact .cons rv .nil
  | cons a b ih => exact .cons a ih
theorem Dq {m1 : Nat} {a v k : Pu} {q p u : PV} {res : Except Exn j6} {Q : A9 -> Py -> Prop} {E : Pu -> Py -> Prop} (G : GF w hT) (g : jh w hT r m1) (X : qL w hT A outer env σ ρ μ s.heap m1) (ht : 1 <= s.toks) (ra : Rv hT ρ s.heap a q) (rk : Rv hT ρ s.heap k u) (rv : Rv hT ρ s.heap v p) (hm : BT r σ q u p μ = some (res, σ', μ')) (P : jT w hT env ρ s res σ' μ' Q E) :
 PQ (MM w) A (bf a k v) (fun zz => Q .next) E s := by
 obtain ⟨x, hx, hm1⟩ := bnd hm
 clear hm
 induction hi : qw μ q with
 | some d =>
   rw [hi] at hm1
   obtain ⟨m, h1, hc⟩ := bnd hi
   obtain ⟨b, e, hn⟩ := ra.lI h1
   have ep := jJ h1
   clear hi h1 ra
   subst e ep
   obtain ⟨ox, od, I⟩ := X.sr.inst0 hn hc
   refine JH (w := w) (G.kin X.sr) I ?_
   exact (g.call A _ ρ μ s 102 [_, k, v] [_, u, p] [] [] X.sr X.sk X.rm (.cons (.loc hn) (.cons rk (.cons rv .nil))) .nil).sim.thenS X ht hm1 P fun c h₄ tk₄ ρ₄ t μ₄ x4 S4 rc ht4 hm4 P4 X4 => (P4.of hm4).ok .next h₄ tk₄ ρ₄ .next rfl (Le.refl _ _ _) S4 X4.er .next ht4
 | none =>
   rw [hi] at hm1
   obtain ⟨m, h1, hm2⟩ := bnd hm1
   obtain ⟨dl, hdl, hm3⟩ := bnd hm2
   obtain ⟨hlen, hm4⟩ := ifT hm3
   obtain ⟨b, e, hn⟩ := ra.lI h1
   obtain ⟨t, e', _⟩ := rk.sI hx
   clear hi h1 ra rk hx hm1 hm2 hm3
   subst e e'
   obtain ⟨kvs, hd, hr⟩ := X.sr.dictAt hn hdl
   refine wpAny_setItem_pairs (knd := PO prog w) (j8 x t) hd (fun h₄ hd4 hs4 => ?_) (by rw [hr.length]; exact RL hlen)
   have hin : b ∈ ρ := Rr hn
   have kv4 := X.sr.kvSet hin hs4
   have x4 : Le [] ρ s.heap ρ h₄ := Le.set hin hs4 (let ⟨_, _, _, hob, _⟩ := hd4; ⟨_, hob⟩)
   exact (P.of hm4).ok .next h₄ (s.toks + 1) ρ .next rfl x4.any (X.sr.set (c := .dict (qR dl x p)) hn hs4 ⟨_, hd4, VG (hr.mono ⟨[], (PS _).symm⟩ kv4) (rv.mono ⟨[], (PS _).symm⟩ kv4)⟩) (X.er.le X.sr x4) .next (Ru ht)
theorem ZV {o i e : Expr} {p2 pos : Pos} (G : GF w hT) (g : jh w hT r n) (X : qL w hT A outer env σ ρ μ s.heap n) : j5 w hT A env ρ s (Ac (.Assign [.Subscript o i p2] e pos) env) (FS r σ o i e μ) := by
 intro ht res σ' μ' hm Q E P
 refine wpAny_Assign_Subscript ?_ ZG
 refine (g.ev A _ env σ ρ μ s e X.toAct).thenS X ht hm P fun v h₁ tk₁ ρ₁ p μ₁ x1 S1 rv ht1 hm1 P1 X1 => ?_
 refine (g.ev A _ env σ ρ₁ μ₁ { s with heap := h₁, toks := tk₁ } o X1.toAct).thenS X1 ht1 hm1 P1 fun a h₂ tk₂ ρ₂ q μ₂ x2 S2 ra ht2 hm2 P2 X2 => ?_
 exact (g.ev A _ env σ ρ₂ μ₂ { s with heap := h₂, toks := tk₂ } i X2.toAct).thenS X2 ht2 hm2 P2 fun iv h₃ tk₃ ρ₃ k μ₃ x3 S3 rk ht3 hm3 P3 X3 => Dq (s := { s with heap := h₃, toks := tk₃ }) G g X3 ht3 (ra.le S2 x3) rk ((rv.le S1 x2).le S2 x3) hm3 P3
theorem JM {M : U9} {a : PE} {ox : Obj} {od : Option Obj} {i : Pu} {Q : Unit -> Py -> Prop} {E : Pu -> Py -> Prop} (X : (KK w).In s.heap) (I : InstAt s.heap a ox 187 od)
 (h : PQ M A (call (.ref 107) [.ref a, i]) (fun zz s' => Q () s') E s) : PQ M A (delItem (.ref a) i) Q E s := by
 obtain ⟨hs, hf⟩ := w4 (w := w) (nm := "__delitem__") (f := 107) (by decide)
 unfold delItem sequenceKey
 refine wpAny_holding (wpAny_bind (wpAny_bind (I.type.here ?_)))
 refine wpAny_bind ((anyM_none X (ZW w)).here ?_)
 rw [if_pos (show (!false) = true from rfl)]
 exact wpAny_pure (wpAny_bind (special_fn X I hs (beq_iff_eq.mp hf) (RG h (fun zz zz z => wpAny_pure z) fun zz zz z => z)))
theorem Vt {o i : Expr} {p2 pos : Pos} (G : GF w hT) (g : jh w hT r n) (X : qL w hT A outer env σ ρ μ s.heap n) : j5 w hT A env ρ s (Ac (.Delete [.Subscript o i p2] pos) env) (qC σ (r.ev σ o μ) fun a μ => qC σ (r.ev σ i μ) fun k => EO r σ a k) := by
 intro ht res σ' μ' hm Q E P
 refine wpAny_Delete (wpAny_deleteEach_cons ?_)
 rw [arm_delete_Subscript]
 refine wpAny_bind ((g.ev A _ env σ ρ μ s o X.toAct).thenS X ht hm P fun a h₂ tk₂ ρ₂ q μ₂ x2 S2 ra ht2 hm2 P2 X2 => ?_)
 refine wpAny_bind (wpAny_holding ((g.ev A _ env σ ρ₂ μ₂ { s with heap := h₂, toks := tk₂ } i X2.toAct).thenS X2 ht2 hm2 P2 fun iv h₃ tk₃ ρ₃ k μ₃ x3 S3 rk ht3 hm3 P3 X3 => ?_))
 have ra3 := ra.le S2 x3
 obtain ⟨d, hd, hm4⟩ := bnd hm3
 obtain ⟨_, hm5⟩ := ifT hm4
 obtain ⟨m, h1, hc⟩ := bnd hd
 obtain ⟨b, e, hn⟩ := ra3.lI h1
 have ep := jJ h1
 clear hd h1 ra3 ra hm3 hm4
 subst e ep
 obtain ⟨ox, od, I⟩ := S3.inst0 hn hc
 refine wpAny_bind (wpAny_standAt (wpAny_bind (wpAny_holding (JM (s := { s with heap := h₃, toks := tk₃ }) (w := w) (G.kin S3) I ?_))))
 exact (g.call A _ ρ₃ μ₃ { s with heap := h₃, toks := tk₃ } 107 [_, iv] [_, k] [] [] S3 X3.sk X3.rm (.cons (.loc hn) (.cons rk .nil)) .nil).sim.thenS X3 ht3 hm5 P3 fun c h₄ tk₄ ρ₄ t μ₄ x4 S4 rc ht4 hm4 P4 X4 => wpAny_release (wpAny_deleteEach_nil ((P4.of hm4).ok .next h₄ tk₄ ρ₄ .next rfl (Le.refl _ _ _) S4 X4.er .next ht4))
end
end
section
open PySem.Builtin
theorem Mk (w : Rk) : bu (KK w) (.ref 187) "__setattr__" = some (some (.builtin "object.__setattr__")) := by kernel_rfl
theorem D5 (w : Rk) : plainOver (KK w) 187 = true := by kernel_rfl
theorem Bb (w : Rk) : takerIn (KK w) 187 "_headers" = some none := by kernel_rfl
theorem CH (w : Rk) : (clsIn (KK w) 187).any (·.hasDict) = true := by kernel_rfl
section
variable {w : Rk} {hT : PP} {A : RE} {l : List Env} {ρ ρ' ρ₀ : List PE} {μ μ₁ μ' : q4} {s : Py} {n : Nat} {env cenv : Env} {outer : List Env} {σ σ' : LE} {h h' h₀ : PP} {r : Ev}
theorem F6 {x : Str} {p : PV} {Q : Pu -> Py -> Prop} {E : Pu -> Py -> Prop} (R : qN hT ρ s.heap env σ) (hx : σ.get x = some p)
 (h : ∀ v, Rv hT ρ s.heap v p -> Q v s) : PQ (MM w) A (loadName env x) Q E s := by
 have hk := R.kindOf (s := s) x
 obtain ⟨hs, hx⟩ := ifT hx
 rcases xt hs with hs | hs
 ·obtain ⟨m, hm, hv⟩ := R.ns
  obtain ⟨v, hv, hr⟩ := hv x p hx hs
  exact AK R.kind (hk.trans hs) hm hv (h v hr)
 ·obtain ⟨c, v, h1, h2, h3⟩ := R.cel x p hx hs
  exact al R.kind (hk.trans hs) h1 h2 (h v h3)
theorem JK {x a : PE} {od : Obj} {c : Nat} {v : Pu} {Q : Unit -> Py -> Prop} {E : Pu -> Py -> Prop} (X : (KK w).In s.heap) (ha : s.heap.get? a = some (Uz 187 x)) (ho : s.heap.get? x = some { cls := .type "dict", data := .dict #[] c })
 (h : ∀ h', h'.DictOf (PO prog w) x [("_headers", v)] -> RK x s.heap h' -> Q () { s with heap := h', toks := s.toks + 1 + 1 }) : PQ (MM w) A (setAttr (.ref a) "_headers" v) Q E s := by
 have I : InstAt s.heap a (Uz 187 x) 187 (some _) := wm ha ho
 refine set_plain X I (Mk w) (osa_open (s := { s with toks := s.toks + 1 }) X I (D5 w) (Bb w) fun b => ?_)
 obtain ⟨cd, hc, hd'⟩ := xX (CH w)
 refine wpAny_bind (wpAny_pure (wpAny_bind (wpAny_bind (wpAny_loadPart (s := { s with toks := s.toks + 1 }) ha (wpAny_bind (Looks.here (s := { s with toks := s.toks + 1 }) (looks_clsIn X hc) ?_))))))
 rw [hd']
 refine wpAny_pure (a := some x) (wpAny_bind (wpAny_pure (wpAny_bind ?_)))
 refine kx (s := { s with toks := s.toks + 1 }) ho fun h' ho' hs' => ?_
 refine wpAny_bind (wpAny_lookBehind ho' (pastItsLine_dict (by show 1 <= Pr + 1; decide)) ?_)
 exact wpAny_pure (h h' (fe ho') hs')
theorem Gb {m1 m d : Nat} {a : PE} {v : Pu} {p : PV} {dl : Loc} {res : Except Exn j6} {Q : A9 -> Py -> Prop} {E : Pu -> Py -> Prop} (G : GF w hT) (X : qL w hT A outer env σ ρ μ s.heap m1) (ht : 1 <= s.toks) (hn : ρ[m]? = some a) (hc : zZ μ m = some d) (hdl : qe μ d = some dl) (he : dl.isEmpty = true) (rv : Rv hT ρ s.heap v p)
 (hm : zh σ .next (qj μ d (.dict [("_headers", p)])) = some (res, σ', μ')) (P : jT w hT env ρ s res σ' μ' Q E) : PQ (MM w) A (setAttr (.ref a) "_headers" v) (fun zz => Q .next) E s := by
 have e := Rf.mp he
 subst e
 obtain ⟨x, kvs, hx, ha, hd, hr⟩ := X.sr.instAt hn hc hdl
 cases hr
 obtain ⟨c, ho⟩ := yN hd
 refine JK (w := w) (od := default) (G.kin X.sr) ha ho fun h₂ hd2 hs2 => ?_
 have hin : x ∈ ρ := Rr hx
 have x2 : Le [] ρ s.heap ρ h₂ := Le.set hin hs2 (let ⟨_, _, _, hob, _⟩ := hd2; ⟨_, hob⟩)
 exact (P.of hm).ok .next h₂ (s.toks + 1 + 1) ρ .next rfl x2.any (X.sr.set (c := .dict [("_headers", p)]) hx hs2 ⟨_, hd2, .cons (rv.mono ⟨[], (PS _).symm⟩ (X.sr.kvSet hin hs2)) .nil⟩) (X.er.le X.sr x2) .next (Ru (Ru ht))
theorem Jo {y name : Str} {py p2 pos : Pos} {e : Expr} (G : GF w hT) (g : jh w hT r n) (X : qL w hT A outer env σ ρ μ s.heap n) : j5 w hT A env ρ s (Ac (.Assign [.Attribute (.Name y py) name p2] e pos) env) (Wl r σ y name e μ) := by
 intro ht res σ' μ' hm Q E P
 obtain ⟨hg, hm1⟩ := ifT hm
 have hyd := nt (an hg).2
 have hnm := qb (an hg).1
 clear hm hg
 subst hnm
 refine plainObj_wpAny_Assign_Attribute ((g.ev A _ env σ ρ μ s e X.toAct).thenS X ht hm1 P fun v h₁ tk₁ ρ₁ p μ₁ x1 S1 rv ht1 hm2 P1 X1 => ?_) VK
 refine bK hm2 fun q hy hm3 => bK hm3 fun d hd hm4 => bK hm4 fun dl hdl hm5 => iT hm5 fun he hm6 => vD (s := { s with heap := h₁, toks := tk₁ }) X1.er hy hyd fun a ra => ?_
 obtain ⟨m, h1, hc⟩ := bnd hd
 obtain ⟨b, e, hn⟩ := ra.lI h1
 exact e ▸ Gb (s := { s with heap := h₁, toks := tk₁ }) G X1 ht1 hn hc hdl he rv hm6 P1
theorem LA {t : Expr} {pos : Pos} {op : AH} {e : Expr} (g : jh w hT r n) (X : qL w hT A outer env σ ρ μ s.heap n) : j5 w hT A env ρ s (Ac (.AugAssign t op e pos) env) (NH r σ t op e μ) := by
 intro ht res σ' μ' hm Q E P
 obtain ⟨x, hx, hm1⟩ := bnd hm
 obtain ⟨old, ho, hm2⟩ := bnd hm1
 obtain ⟨px, ex⟩ := ja hx
 clear hm hm1 hx
 subst ex
 refine wpAny_AugAssign_Name (F6 X.er ho fun ov ro => (g.ev A _ env σ ρ μ s e X.toAct).thenS X ht hm2 P fun v h₁ tk₁ ρ₁ p μ₁ x1 S1 rv ht1 hm3 P1 X1 => ?_)
 obtain ⟨hop, hm4⟩ := ifT hm3
 obtain ⟨a, ha, hm5⟩ := bnd hm4
 obtain ⟨b, hb, hm6⟩ := bnd hm5
 obtain ⟨t1, e1, _⟩ := (ro.le X.sr x1).sI ha
 obtain ⟨t2, e2, _⟩ := rv.sI hb
 have e3 : op = .Add := by induction op <;> first | rfl | exact noB hop
 clear hm3 hm4 hm5 ro rv hop ha hb ho
 subst e1 e2 e3
 by_cases hl : (a ++ b).length <= Pr
 ·have hm7 : kZ σ x (.str (a ++ b)) μ₁ = some (res, σ', μ') := by unfold yx at hm6; rw [if_pos hl] at hm6; exact hm6
  exact jk ht1 (PyProof.Rows.iadd_str (s := { s with heap := h₁, toks := tk₁ }) (fun t' tk ht' => gt (s := { s with heap := h₁, toks := tk }) X1 ht' (.str _ t' hl) hm7 (P1.le (s := { s with heap := h₁, toks := tk₁ }) (tk := tk) (Le.refl _ _ _))) (by rw [<- PN]; exact hl))
 ·unfold yx at hm6; rw [if_neg hl] at hm6; exact no hm6
end
end
section
open PySem.Builtin
theorem if5 {α : Type} {c1 c2 c3 c4 c5 : Bool} {a b d e u r : α} (h1 : c1 = false) (h2 : c2 = false) (h3 : c3 = false) (h4 : c4 = false) (h5 : c5 = false) :
 (if c1 = true then a else if c2 = true then b else if c3 = true then d else if c4 = true then e else if c5 = true then u else r) = r := by
 subst h1 h2 h3 h4 h5; rfl
section
variable {w : Rk} {hT : PP} {A : RE} {l : List Env} {ρ ρ' ρ₀ : List PE} {μ μ₁ μ' : q4} {s : Py} {n : Nat} {env cenv : Env} {outer : List Env} {σ σ' : LE} {h h' h₀ : PP} {r : Ev}
theorem IH : 2 <= Pr := by decide
theorem Gl {x y : Str} {px py : Pos} {f : Expr -> Option Str} (e1 : f (.Name x px) = some x) (e2 : f (.Name y py) = some y) : [Expr.Name x px, .Name y py].filterMap f = [x, y] := by
 rw [TT e1, TT e2]; rfl
theorem Nx {x y : Str} (h : (x == y) = false) : [x, y].eraseDups = [x, y] := by
 rw [List.eraseDups_cons, filter_cons, show (y == x) = false from beq_eq_false_iff_ne.mpr fun e => Te ((h.symm.trans (by rw [e])).trans (beq_self_eq_true x))]; rfl
theorem Pn {F : Expr -> Bool} {a b : Expr} (hF : ∀ e, F e = qf e) (ha : qf a = false) (hb : qf b = false) : [a, b].any F = false := by
 show (F a || (F b || false)) = false
 rw [hF, hF, ha, hb]; rfl
theorem JY {x y : Str} {px py tp vp : Pos} {k k2 : Nat} {a b : Expr} (hk : env.scope.kind = .function) (hx : env.kindOf x = some .local) (hy : env.kindOf y = some .local) (hl : (px.line == py.line) = true) (hne : (x == y) = false)
 (h1 : [a, b].all (aD 8) = false) (h2 : [a, b].all (AI 8) = false) (ha : qf a = false) (hb : qf b = false) :
 swappedStores [.Tuple [.Name x px, .Name y py] k tp] (.Tuple [a, b] k2 vp) env = pure (some [x, y]) := by
 have hbk : env.blockKind = .function := by
  unfold Env.blockKind; rw [hk]; exact ite_self _
 have e1 : (if (env.kindOf x == some .local && px.line == px.line) = true then some x else none) = some x := if_pos (by rw [hx, beq_self_eq_true px.line]; rfl)
 have e2 : (if (env.kindOf y == some .local && py.line == px.line) = true then some y else none) = some y := if_pos (by rw [hy, eq_of_beq hl, beq_self_eq_true py.line]; rfl)
 refine (if5 ?_ ?_ ?_ h1 h2).trans (congrArg (fun l => pure (some l)) (Gl e1 e2))
 ·show (false || (env.blockKind != .function)) = false
  rw [hbk]; rfl
 ·refine Pn (fun e => ?_) ha hb
  induction e using PC <;> exact rfl
 ·refine (congrArg (fun l : List Str => l.length != 2 || l.eraseDups.length != l.length) (Gl e1 e2)).trans ?_
  show ([x, y].length != 2 || [x, y].eraseDups.length != [x, y].length) = false
  rw [Nx hne]; rfl
theorem Ck {ts es : List Expr} {tp vp pos : Pos} {k k2 : Nat} (g : jh w hT r n) (X : qL w hT A outer env σ ρ μ s.heap n) : j5 w hT A env ρ s (Ac (.Assign [.Tuple ts k tp] (.Tuple es k2 vp) pos) env) (Bc r σ ts es μ) := by
 intro ht res σ' μ' hm Q E P
 obtain ⟨⟨t1, t2⟩, h1, hm1⟩ := bnd hm
 obtain ⟨⟨a, b⟩, h2, hm2⟩ := bnd hm1
 obtain ⟨⟨x, px⟩, h3, hm2a⟩ := bnd hm2
 obtain ⟨⟨y, py⟩, h4, hm2b⟩ := bnd hm2a
 have e1 := gj h1
 have e2 := gj h2
 have e3 := yG h3
 have e4 := yG h4
 clear hm hm1 hm2 hm2a h1 h2 h3 h4
 dsimp only at e1 e2 e3 e4 hm2b
 subst e3 e4 e1 e2
 obtain ⟨hg, hm3⟩ := ifT hm2b
 have g8 := an hg
 have g7 := an g8.1
 have g6 := an g7.1
 have g5 := an g6.1
 have g4 := an g5.1
 have g3 := an g4.1
 have g2 := an g3.1
 have hx : env.kindOf x = some .local := (X.er.kindOf (s := s) x).trans (eq_of_beq g2.1)
 have hy : env.kindOf y = some .local := (X.er.kindOf (s := s) y).trans (eq_of_beq g2.2)
 refine Assign_Tuple_swapped (names := [x, y]) (wpAny_Tuple ?_) (by rfl) (JY X.er.kind hx hy g3.2 (nt g4.2) (nt g5.2) (nt g6.2) (nt g7.2) (nt g8.2))
 rw [q9 (by rw [Uk, Uk, g7.2, g8.2]; rfl)]
 clear g8 g7 g6 g5 g4 g3 g2 hg hx hy
 refine spliced_cons ((g.ev A _ env σ ρ μ s a X.toAct).thenS X ht hm3 P fun v h₁ tk₁ ρ₁ p μ₁ x1 S1 rv ht1 hm1 P1 X1 => spliced_cons ?_)
 refine (g.ev A _ env σ ρ₁ μ₁ { s with heap := h₁, toks := tk₁ } b X1.toAct).thenS X1 ht1 hm1 P1 fun u h₂ tk₂ ρ₂ q μ₂ x2 S2 ru ht2 hm2 P2 X2 => Ta ⟨IH, ?_⟩
 have hk := qg h₂ { cls := .type "tuple", data := .seq #[v, u] }
 rw [show ([x, y] : List Str).length = (#[v, u] : Array Pu).size from rfl]
 refine wpAny_unpackItems_tuple (items := #[v, u]) (s := { s with heap := h₂.push { cls := .type "tuple", data := .seq #[v, u] }, toks := tk₂ }) X2.rm.1 ⟨_, Rg _ rfl, rfl, 0, rfl⟩ fun h₃ he => ?_
 have keep : ∀ b o, h₂.get? b = some o -> h₃.get? b = some o := fun b o e => he b o (RQ (RJ (hk b o e))) (hk b o e)
 have x3 : Le [] ρ₂ h₂ ρ₂ h₃ := Le.of_keeps keep
 have X3 := X2.le x3 (S2.keeps keep)
 refine bK hm2 fun σ₁ hp1 hm4 => UH (AZ (xC (own := qy env) (s := { s with heap := h₃, toks := tk₂ }) ht2 X3.sr X3.er (ru.le S2 x3) hp1 X3.nt (.head _) (js env y) fun h₄ tk₄ x4 S4 R4 ht4 => ?_))
 have X4 := X3.leOwn x4 S4 R4
 have rv4 := ((rv.le S1 x2).le S2 x3).mono (ρ' := ρ₂) ⟨[], (PS _).symm⟩ (X3.sr.kv X3.er.ownOK x4)
 exact UH (AZ (RG (gt (s := { s with heap := h₄, toks := tk₄ }) X4 ht4 rv4 hm4 (P2.le (s := { s with heap := h₂, toks := tk₂ }) (tk := tk₄) (x3.any.trans x4))) (fun zz zz q => wpAny_pure q) fun zz zz q => q))
theorem xn (w : Rk) : nsIn (KK w) mainGlobals "ValueError" = some none := by kernel_rfl
theorem Fg {e c : Option Expr} {pos : Pos} (G : GF w hT) (X : qL w hT A outer env σ ρ μ s.heap n) : j5 w hT A env ρ s (Ac (.Raise e c pos) env) (Y8 σ e c μ) := by
 intro ht res σ' μ' hm Q E P
 obtain ⟨hc, hm1⟩ := ifT hm
 obtain ⟨⟨c0, m⟩, hq, hm2⟩ := bnd hm1
 obtain ⟨hg, hm3⟩ := ifT hm2
 obtain ⟨e0, he, hq⟩ := bnd hq
 obtain ⟨⟨f, x⟩, h1, hq⟩ := bnd hq
 obtain ⟨y, h2, hq⟩ := bnd hq
 obtain ⟨np, cp, e1⟩ := w2 h1
 obtain ⟨mk, mp, e2⟩ := QS h2
 have e3 := TG.mp hc
 have e4 := qk hq
 have e5 := qb (an hg).1
 have g2 := (an hg).2
 have P := P.of hm3
 clear hm hm1 hm2 hm3 hc hq h1 h2 hg
 dsimp only at e1 e2 e4 e5 g2 P
 injection e4 with e6 e7
 subst e2 e1 e3 e6 e7 e5 he
 refine jk ht ?_
 refine wpAny_Raise_call PySem.F.excCall_ValueError PySem.F.excRaise_ValueError X.rm.1 (by rw [q9 (by rfl)]; rfl) ?_
 refine zN (v := .type "ValueError") G X.er X.sr g2 (xn w) (by kernel_rfl) (by decide) (by decide) ⟨rfl, ?_⟩
 refine qP (qI (by rfl)) ?_
 rw [q9 (by rfl)]
 refine spliced_cons (Sj (Ta ⟨rfl, by show 1 <= Pr; decide, fun h₁ ex hme => ?_⟩))
 obtain ⟨t, he, htn, htt⟩ := hme.there
 have hk := hme.keeps
 have x1 : Le [] ρ s.heap ρ h₁ := Le.of_keeps hk
 have S1 := X.sr.keeps hk
 refine fun ht' => P.err ex h₁ _ ρ _ rfl x1.any S1 (X.er.le X.sr x1) (ww.toS ⟨_, _, _, ⟨he, rfl, rfl, rfl, fun m' hm' => ?_, hme.new⟩, rfl⟩) ht'
 cases hm'
 exact ⟨t, _, rfl, _, 0, htt, rfl, rfl⟩
end
end
section
open PySem.Builtin
section
variable {w : Rk} {hT : PP} {A : RE} {l : List Env} {ρ ρ' ρ₀ : List PE} {μ μ₁ μ' : q4} {s : Py} {n : Nat} {env cenv : Env} {outer : List Env} {σ σ' : LE} {h h' h₀ : PP} {r : Ev}
theorem Wr.kv {h₀ h h' : PP} (W : Wr hT ρ h₀ h h') : Kv h h' := fun b o hb hc => by
 obtain ⟨hc1, vs, n, hd⟩ := hc
 rcases W b o hb (.inl fun ws q => by rw [hd] at q; cases q) with z | ⟨_, _, z⟩
 ·exact ⟨o.slots, z⟩
 ·exact z
theorem qN.written (R : qN hT ρ h env σ) (W : Wr hT ρ h₀ h h') : qN hT ρ h' env σ := by
 have kv := W.kv
 have hx : ∃ more, ρ = ρ ++ more := ⟨[], by simp⟩
 have cell : ∀ {c : PE} {v : Option Pu}, h.IsCell c v -> h'.IsCell c v := fun {c v} x => by
  obtain ⟨o, ho, hd⟩ := x
  rcases W c o ho (.inl fun vs q => by rw [hd] at q; cases q) with z | ⟨_, _, sl, z⟩
  ·exact ⟨o, z, hd⟩
  ·exact ⟨_, z, hd⟩
 obtain ⟨m, ⟨o, es, ep, ho, hd, r⟩, hv⟩ := R.ns
 have hn : h'.Ns env.locals m := by
  rcases W _ o ho (.inl fun vs q => by rw [hd] at q; cases q) with z | ⟨_, _, sl, z⟩
  ·exact ⟨o, es, ep, z, hd, r⟩
  ·exact ⟨_, es, ep, z, hd, r⟩
 refine ⟨R.kind, R.names, R.glob, R.blt, R.loc, ⟨m, hn, fun y p hy hk => ?_⟩, fun y p hy hk => ?_, fun q hq => ?_, R.sep, R.has⟩
 ·obtain ⟨v, h1, h2⟩ := hv y p hy hk
  exact ⟨v, h1, h2.mono hx kv⟩
 ·obtain ⟨c, v, hc, hi, hr⟩ := R.cel y p hy hk
  exact ⟨c, v, hc, cell hi, hr.mono hx kv⟩
 ·obtain ⟨h1, h2, v, h3⟩ := R.cells q hq
  exact ⟨h1, h2, v, cell h3⟩
theorem Le.writtenX {own own' : List PE} (Y : Le (own ++ own') ρ₀ h₀ ρ h) (f : ∀ b ∈ own, h₀.get? b = none) (W : Wr hT ρ h₀ h h') : Le own' ρ₀ h₀ ρ h' := by
 have nn : ∀ b o, h₀.get? b = some o -> b ∉ own' -> b ∉ own ++ own' := fun b o e q z => by
  rcases PU.mp z with z | z
  ·rw [f b z] at e; cases e
  ·exact q z
 refine ⟨Y.ext, fun b o hb hn ho => ?_, fun b o hb => ?_, fun b o hb hn ho hd => ?_⟩
 ·obtain ⟨sl, hs⟩ := Y.kp b o hb hn (nn b o hb ho)
  rcases W b _ hs (.inr (by rw [hb]; simp)) with z | ⟨_, z, sl', z'⟩
  ·exact ⟨sl, z⟩
  ·exact ⟨sl', z'⟩
 ·obtain ⟨o', hs⟩ := Y.st b o hb
  rcases W b _ hs (.inr (by rw [hb]; simp)) with z | ⟨_, _, sl', z'⟩
  ·exact ⟨_, z⟩
  ·exact ⟨_, z'⟩
 ·rcases W b o (Y.ex b o hb hn (nn b o hb ho) hd) (.inr (by rw [hb]; simp)) with z | ⟨⟨_, es, ep, q⟩, _⟩
  ·exact z
  ·exact absurd q (hd es ep)
theorem XI {own : List PE} {e : PE} {x : Exn} {E : Pu -> Py -> Prop} (X : qL w hT A outer env σ ρ μ s.heap n) (Y : Le (own ++ qy env) ρ₀ h₀ ρ s.heap) (f : ∀ b ∈ own, h₀.get? b = none) (hX : kO env.locals h₀ s.heap e x) (T : ∀ b o, hT.get? b = some o -> h₀.get? b = some o)
 (k : ∀ h', Le (qy env) ρ₀ h₀ ρ h' -> SR w hT ρ μ h' -> qN hT ρ h' env σ -> kO env.locals h₀ h' e x -> E (.ref e) { s with heap := h' }) : notedBy (MM w) A env (UJ (MM w) A env E) (.ref e) s := by
 unfold notedBy
 refine XO X.sk X.fr hX (fun b hb => ?_) fun h1 W1 N1 => ?_
 ·induction q : h₀.get? b with
  | none => exact absurd q hb
  | some o => obtain ⟨o', ho'⟩ := Y.st b o q; rw [ho']; simp
 unfold UJ
 refine N1.elim fun oe b => b.elim fun vs b => b.elim fun a0 b => b.2.elim fun T' t => t.elim fun oT t => t.elim fun ts t => ?_
 refine wpAny_bind (Uo (s := { s with heap := h1 }) b.1.g b.1.d t.r ?_)
 rw [if_neg (show ¬ ((ai T' == U1) = true) from Te)]
 rw [X.fr]
 refine yP (hT := hT) (ρ := ρ) (s := { s with heap := h1 }) (f := some env.locals) N1 fun h2 W2 N2 => ?_
 have W := W1.trans W2
 exact k h2 (Y.writtenX f W) (X.sr.written T W) (X.er.written W) N2.toS
structure FI (w : Rk) (hT : PP) (A : RE) (outer : List Env) (env : Env) (own : List PE) (ρ₀ : List PE) (h₀ : PP) (src : Src) (I : PE) (i : Nat) (σ : LE) (ρ : List PE) (μ : q4) (h : PP) (n : Nat) : Prop where
 le : Le (own ++ qy env) ρ₀ h₀ ρ h
 act : qL w hT A outer env σ ρ μ h n
 it : zd ρ h own src i I
 nr : ∀ b ∈ own, b ∉ ρ
theorem ZN {own : List PE} {src : Src} {i : Nat} {I : PE} (x : zd ρ h own src i I) : ∀ b ∈ own, ∀ o, h.get? b = some o -> ∀ es ep, o.data ≠ .dict es ep := by
 intro b hb o e es ep hd
 induction src with
 | list n =>
   obtain ⟨rfl, a, _, o', ho', hc, hd'⟩ := x
   rw [Pw.mp hb, ho'] at e; cases e; rw [hd'] at hd; cases hd
 | str x =>
   obtain ⟨rfl, t, o', ho', hc, hd'⟩ := x
   rw [Pw.mp hb, ho'] at e; cases e; rw [hd'] at hd; cases hd
 | enum n =>
   obtain ⟨J, a, old, rfl, _, _, he, o', ho', hc, hd'⟩ := x
   rcases Rq.mp hb with rfl | hb
   ·have he' : h.get? b = _ := he
    rw [he'] at e; cases e; cases hd
   ·rw [Pw.mp hb, ho'] at e; cases e; rw [hd'] at hd; cases hd
theorem XH {own : List PE} {src : Src} {I : PE} {target : Expr} {body : List Sf} {res : Except Exn j6} {Q : A9 -> Py -> Prop} {E : Pu -> Py -> Prop} (g : jh w hT r n) (f0 : ∀ b ∈ own, h₀.get? b = none) (hn : ∀ b ∈ own, hT.get? b = none) (hd : ∀ b ∈ own, b ∉ qy env)
 (T : ∀ b o, hT.get? b = some o -> h₀.get? b = some o) (hto : jC target = true) (hen : ∀ m, src = .enum m -> zu target = true) {k i : Nat} (F : FI w hT A outer env own ρ₀ h₀ src I i σ ρ μ s.heap n) (ht : 1 <= s.toks)
 (hm : zQ r src target body k i σ μ = some (res, σ', μ')) (P : jT w hT env ρ₀ { s with heap := h₀ } res σ' μ' Q E) :
 TC (MM w) A (.forLoop target (.ref I) body [] env) (fun r s' => match r with | .ok f => Q f s' | .error e => UJ (MM w) A env E e s') s := by
 refine Uw (fun k s' => ∃ i σ ρ μ h tk, s' = { s with heap := h, toks := tk } /\ FI w hT A outer env own ρ₀ h₀ src I i σ ρ μ h n /\ 1 <= tk /\ zQ r src target body k i σ μ = some (res, σ', μ')) ?_ k ⟨i, σ, ρ, μ, s.heap, s.toks, rfl, F, ht, hm⟩
 clear F ht hm
 rintro k s' ⟨i, σ, ρ, μ, h, tk, rfl, F, ht, hm⟩
 induction k using AN with
 | zero => exact no hm
 | succ k =>
   obtain ⟨o, hnx, hm1⟩ := bnd (o := xo src i μ) hm
   clear hm
   have nt := F.it.nt
   induction o with
   | none =>
     exact w8 (s := { s with heap := h, toks := tk }) F.act.rm.1 hto hen ht F.act.sr F.it F.nr hnx (fun zz h' tk' kb ht' => wpAny_pure ((P.of hm1).ok .next h' tk' ρ .next rfl (F.le.fin f0 kb) (F.act.sr.kb (fun b hb => ⟨F.nr b hb, hn b hb⟩) kb nt) (F.act.er.kb kb nt hd) .next ht')) fun p v h' tk' e => nomatch e
   | some p =>
     obtain ⟨σ₂, hb, hm2⟩ := bnd (o := qu σ target p) hm1
     clear hm1
     refine w8 (s := { s with heap := h, toks := tk }) F.act.rm.1 hto hen ht F.act.sr F.it F.nr hnx (fun e => nomatch e) fun p' v h' tk' e kb rv ht' go => go _ _ fun h₂ kb2 rv2 it2 => ?_
     have e := qk e
     subst e
     have le2 : Le (own ++ qy env) ρ₀ h₀ ρ h₂ := F.le.trans ((Le.kb kb2 it2.there).weaken fun b zz zz q => Ro _ q)
     refine w7 (s := { s with heap := h₂, toks := tk' }) (own := qy env) hb F.act.rm.1 ht' (F.act.sr.kb (fun b hb => ⟨F.nr b hb, hn b hb⟩) kb2 nt) (F.act.er.kb kb2 nt hd) rv2 F.act.nt (fun zz q => q) (.head _) (fun x zz => js env x) fun h₃ tk₃ x3 S3 R3 ht3 => ?_
     have x3' : Le (own ++ qy env) ρ h₂ ρ h₃ := x3.weaken fun b zz zz q => Ra _ q
     have le3 := le2.trans x3'
     have it3 := it2.le x3 fun b hb => ⟨F.nr b hb, hd b hb⟩
     have sk3 : Stk hT A ρ h₃ (env :: outer) := F.act.sk.leOwn (((Le.kb kb2 it2.there).weaken fun b zz zz q => Ro _ q).trans x3') R3 F.act.fr fun e he L hL q => by
      rcases PU.mp q with q | q
      ·obtain ⟨_, o, ho, es, ep, hdd⟩ := F.act.sk.out e (.tail _ he) L hL
       exact ZN F.it L q o ho es ep hdd
      ·exact F.act.ap e he L hL q
     have X3 : qL w hT A outer env σ₂ ρ μ h₃ n := ⟨⟨S3, R3, sk3, F.act.rm⟩, F.act.fr, F.act.ap, F.act.nt⟩
     have fin : ∀ {ρ₄ h₄}, Le (qy env) ρ h₃ ρ₄ h₄ -> Le (qy env) ρ₀ h₀ ρ₄ h₄ := fun x4 => (le3.trans (x4.weaken fun b zz zz q => Ra _ q)).weaken fun b o hb q => by
      rcases PU.mp q with q | q
      ·rw [f0 b q] at hb; exact no hb
      ·exact q
     induction hex : r.ex σ₂ body μ with
     | none => rw [hex] at hm2; exact no hm2
     | some z =>
       obtain ⟨r1, σ₁, μ₁⟩ := z
       rw [hex] at hm2
       refine g.ex A outer env σ₂ ρ μ { s with heap := h₃, toks := tk₃ } body X3 ht3 _ _ _ hex _ _ ⟨fun f h₄ tk₄ ρ₄ b e x4 S4 R4 rf ht4 => ?_, fun e h₄ tk₄ ρ₄ x e1 x4 S4 R4 ex ht4 => ?_⟩
       ·subst e
        have again : zQ r src target body k (i + 1) σ₁ μ₁ = some (res, σ', μ') -> ∃ m, m < k + 1 /\ ∃ i σ ρ μ h tk, ({ s with heap := h₄, toks := tk₄ } : Py) = { s with heap := h, toks := tk } /\ FI w hT A outer env own ρ₀ h₀ src I i σ ρ μ h n /\ 1 <= tk /\ zQ r src target body m i σ μ = some (res, σ', μ') := fun hm' =>
         ⟨k, RU k, i + 1, σ₁, ρ₄, μ₁, h₄, tk₄, rfl, ⟨le3.trans (x4.weaken fun b zz zz q => Ra _ q), X3.leOwn x4 S4 R4, it3.le x4 fun b hb => ⟨F.nr b hb, hd b hb⟩, fun b hb => by
           obtain ⟨o, ho⟩ := it3.there b hb
           exact x4.out ho (F.nr b hb)⟩, ht4, hm'⟩
        induction rf with
        | next => exact again hm2
        | cont => exact again hm2
        | brk => exact no hm2
        | ret rv => exact (P.of hm2).ok (.ret _) h₄ tk₄ ρ₄ (.ret _) rfl (fin x4) S4 R4 (.ret rv) ht4
       ·subst e1
        exact XI (s := { s with heap := h₄, toks := tk₄ }) (X3.leOwn x4 S4 R4) (le3.trans (x4.weaken fun b zz zz q => Ra _ q)) f0 (kO.le le3 ex) T fun h₅ x5 S5 R5 ex5 => (P.of hm2).err e h₅ tk₄ ρ₄ x rfl x5 S5 R5 ex5 ht4
theorem FB {e : Expr} (h : yt e = false) : ∀ x, foldedSetIterable e env x = pure x := by
 intro x
 induction e using PC <;> first | rfl | exact noB h.symm
theorem Ft {p : PV} {src : Src} {k m : Nat} (h : zY p μ = some (src, k)) (e : src = .enum m) : False := by
 unfold zY at h
 induction hp : qx p with
 | some x => rw [hp] at h; rw [(wU h).1] at e; cases e
 | none => rw [hp] at h; obtain ⟨_, _, h⟩ := bnd h; obtain ⟨_, _, h⟩ := mp' h; rw [(wU h).1] at e; cases e
theorem Hu {target iter : Expr} {body : List Sf} {pos : Pos} (g : jh w hT r n) (X : qL w hT A outer env σ ρ μ s.heap n) : j5 w hT A env ρ s (Ac (.For target iter body [] pos) env) (if yt iter || !jC target then none else qC σ (r.ev σ iter μ) fun v μ => (zY v μ).bind fun q => zQ r q.1 target body q.2 0 σ μ) := by
 intro ht res σ' μ' hm Q E P
 obtain ⟨hc, hm1⟩ := ifB hm
 refine wpAny_For ((g.ev A _ env σ ρ μ s iter X.toAct).thenS X ht hm1 P fun v h₁ tk₁ ρ₁ p μ₁ x1 S1 rv ht1 hm2 P1 X1 => ?_) (FB (orF hc).1)
 refine bK hm2 fun q hsrc hm3 => Qz (s := { s with heap := h₁, toks := tk₁ }) S1 rv hsrc fun h₂ own I x0 => ?_
 have f0 : ∀ b ∈ own, h₁.get? b = none := fun b hb => Zc (x0.low b hb).1
 have hn : ∀ b ∈ own, hT.get? b = none := fun b hb => by
  induction q : hT.get? b with
  | none => rfl
  | some o => have := S1.top b o q; rw [f0 b hb] at this; exact no this
 have le0 : Le [] ρ₁ h₁ ρ₁ h₂ := Le.of_keeps x0.keep
 exact XH (s := { s with heap := h₂, toks := tk₁ }) (h₀ := h₁) (ρ₀ := ρ₁) g f0 hn (fun b hb q => by
  obtain ⟨o, ho⟩ := X1.er.there b q
  rw [f0 b hb] at ho; exact no ho) S1.top (by induction q : jC target with | true => rfl | false => rw [q] at hc; exact noB ((orF hc).2.symm)) (fun m e => (Ft hsrc e).elim) ⟨le0.any, X1.le le0 (S1.keeps x0.keep), x0.it, fun b hb q => absurd (S1.lt q) (Sh.mpr (x0.low b hb).1)⟩ ht1 hm3 P1
end
end
section
open PySem.Builtin
section
variable {w : Rk} {hT : PP} {A : RE} {l : List Env} {ρ ρ' ρ₀ : List PE} {μ μ₁ μ' : q4} {s : Py} {n : Nat} {env cenv : Env} {outer : List Env} {σ σ' : LE} {h h' h₀ : PP} {r : Ev}
theorem Ks {a : PE} {kvs : List (Str × Pu)} {ep : Nat} (D : h.DictAt (PO prog w) a kvs ep) : h.DictOf (PO prog w) a kvs := by
 obtain ⟨o, es, ho, r⟩ := D
 exact ⟨o, es, ep, ho, r⟩
theorem vk {a : PE} {kvs : List (Str × Pu)} {ep : Nat} (D : h.DictAt (PO prog w) a kvs ep) (k : ∀ b o, h.get? b = some o -> h'.get? b = some o) : h'.DictAt (PO prog w) a kvs ep := by
 obtain ⟨o, es, ho, r⟩ := D
 exact ⟨o, es, k _ _ ho, r⟩
theorem SR.kwAt (S : SR w hT ρ μ h) {m : Nat} {a : PE} {l : Loc} (hn : ρ[m]? = some a) (hl : zi μ m = some l) : ∃ kvs : List (Str × Pu), h.DictAt (PO prog w) a kvs l.length /\ RvD hT ρ h kvs l /\ kvs.length = l.length :=
 let ⟨kvs, D, hr⟩ := S.cells m a _ hn (W6 hl)
 ⟨kvs, D, hr, hr.length⟩
theorem kn {d : PE} {kvs : List (Str × Pu)} {ep : Nat} {target : Expr} {body : List Sf} {R : Result -> Py -> Prop} {E : Pu -> Py -> Prop} (D : s.heap.DictAt (PO prog w) d kvs ep)
 (k : ∀ h2 I, s.heap.get? I = none -> (∀ b o, s.heap.get? b = some o -> h2.get? b = some o) -> U4 h2 I d 0 kvs.length ep .none .none -> h2.DictAt (PO prog w) d kvs ep -> I < h2.objs.size -> TC (MM w) A (.forLoop target (.ref I) body [] env) R { s with heap := h2 }) :
 PQ (MM w) A (ct (.ref s.heap.objs.size)) (fun it s₂ => TC (MM w) A (.forLoop target it body [] env) R s₂) E { s with heap := s.heap.push { cls := .type "dict_items", data := .fields #[.ref d] } } := by
 have k1 := qg s.heap { cls := .type "dict_items", data := .fields #[.ref d] }
 have D1 := vk D k1
 refine wpAny_pyIter_items (s := { s with heap := s.heap.push { cls := .type "dict_items", data := .fields #[.ref d] } }) (knd := PO prog w) ⟨_, Rg _ rfl, rfl, rfl⟩ D1 ?_
 have k2 := qg (s.heap.push { cls := .type "dict_items", data := .fields #[.ref d] }) { cls := .type "dict_itemiterator", data := .fields #[.none, .bool false, .ref d, .int 0 0, .int kvs.length 0, .int ep 0, .none, .none] }
 exact k _ _ (Zc (by rw [SL]; exact U5 _)) (fun b o e => k2 _ _ (k1 _ _ e)) (Rg _ rfl) (vk D1 k2) (by rw [SL (s.heap.push _)]; exact RU _)
theorem Yj {d I : PE} {k : Str} {v : Pu} {p : PV} {ep : Nat} {target : Expr} {h2 : PP} {Q' : Option Pu -> Py -> Prop} {E' : Pu -> Py -> Prop} (hto : zu target = true) (f0 : s.heap.get? I = none) (k12 : ∀ b o, s.heap.get? b = some o -> h2.get? b = some o)
 (hit : U4 h2 I d 0 1 ep .none .none) (D2 : h2.DictAt (PO prog w) d [(k, v)] ep) (hI : I < h2.objs.size) (hkl : k.length <= Pr) (rv0 : Rv hT ρ s.heap v p)
 (hq : ∀ v h3, (∀ (Q'' : Unit -> Py -> Prop) (E'' : Pu -> Py -> Prop), (∀ h4, (∀ b o, s.heap.get? b = some o -> h4.get? b = some o) -> Rv hT ρ h4 v (.tup [.str k, p]) -> (∃ ok ov, U4 h4 I d 1 1 ep ok ov) -> Q'' () { s with heap := h4 }) -> PQ (MM w) A (Ut target (.ref I) v) Q'' E'' { s with heap := h3 }) -> Q' (some v) { s with heap := h3 }) :
 PQ (MM w) A (cf (.ref I)) Q' E' { s with heap := h2 } := by
 have hI' : ∀ b o, s.heap.get? b = some o -> b ≠ I := fun b o e z => by rw [z, f0] at e; exact no e
 refine wpAny_pyNext_items_item (s := { s with heap := h2 }) (knd := PO prog w) (kvs := [(k, v)]) hit D2 rfl fun key h3 hkey hout htup hs3 hk3 => ?_
 obtain ⟨t, e⟩ := TO (show To k key = true from hkey)
 obtain ⟨tts, tk', tp, e'⟩ := xZ hto
 clear hkey hto
 subst e e'
 refine hq _ h3 fun Q'' E'' hq2 => wpAny_letOwnedTupleGo_items (s := { s with heap := h3 }) hout fun h4 hi4 hs4 => ?_
 have k4 : ∀ b o, s.heap.get? b = some o -> h4.get? b = some o := fun b o e => (hs4.2 b (hI' b o e)).trans (hk3 b o (hI' b o e) (k12 b o e))
 exact hq2 h4 k4 (.tup (vs := [.str k t, v]) ⟨_, (hs4.2 _ (RZ hI)).trans htup, rfl, 0, rfl⟩ (.cons (.str k t hkl) (.cons (rv0.mono ⟨[], (PS _).symm⟩ (Kv.of_keeps k4)) .nil))) ⟨_, _, hi4⟩
theorem VQ {m d I : PE} {ep : Nat} {μ₀ : q4} {σ₀ : LE} {kvs : List (Str × Pu)} {ok ov : Pu} {E : Pu -> Py -> Prop} {Q : Option Pu -> Py -> Prop} {ρ₅ : List PE} (X : qL w hT A outer env σ ρ₅ μ h n) (f0 : h₀.get? I = none) (T0 : ∀ b o, hT.get? b = some o -> h₀.get? b = some o) (ho : I ∉ qy env) (hρ : I ∉ ρ₅) (x5 : Le (qy env) ρ₀ h₀ ρ₅ h)
 (hi : U4 h I d kvs.length kvs.length ep ok ov) (D : h.DictAt (PO prog w) d kvs ep) (hq : ∀ h6, Le (qy env) ρ₀ h₀ ρ₅ h6 -> SR w hT ρ₅ μ h6 -> qN hT ρ₅ h6 env σ -> Q none { s with heap := h6 }) : PQ (MM w) A (cf (.ref I)) Q E { s with heap := h } := by
 refine wpAny_pyNext_items_end (s := { s with heap := h }) (knd := PO prog w) (kvs := kvs) (i := kvs.length) X.rm.1 hi D (SU.mpr (PK _)) fun h6 hx6 => ?_
 have kb : KB [I] h h6 := KB.ext hx6
 have nt : NT [I] h := fun b hb o e hc => by
  rw [Pw.mp hb] at e
  have e' : h.get? I = _ := hi
  rw [e'] at e; cases qk e
  have := hc.1; simp at this
 have hTI : hT.get? I = none := by
  induction q : hT.get? I with
  | none => rfl
  | some o => have := T0 _ o q; rw [f0] at this; exact no this
 exact hq h6 (Le.fin (own := [I]) (own' := qy env) (x5.weaken fun b zz zz q => Ra _ q) (fun b hb => by rw [Pw.mp hb]; exact f0) kb) (X.sr.kb (fun b hb => by rw [Pw.mp hb]; exact ⟨hρ, hTI⟩) kb nt) (X.er.kb kb nt fun b hb => by rw [Pw.mp hb]; exact ho)
structure Mid (w : Rk) (hT : PP) (A : RE) (outer : List Env) (env : Env) (ρ₀ : List PE) (h₀ : PP) (d I : PE) (m : Nat) (n : Nat) (σ : LE) (μ : q4) (h : PP) (tk : Nat) (ρ : List PE) : Prop where
 le : Le (qy env) ρ₀ h₀ ρ h
 act : qL w hT A outer env σ ρ μ h n
 it : ∃ ok ov, U4 h I d 1 1 1 ok ov
 kw : ∃ kv, zi μ m = some [kv]
 nr : I ∉ ρ
 tk : 1 <= tk
theorem Kt {m : Nat} {d I : PE} {k : Str} {v : Pu} {p : PV} {target : Expr} {body : List Sf} {res : Except Exn j6} {σ₂ : LE} {h2 : PP} {Q : A9 -> Py -> Prop} {E : Pu -> Py -> Prop} (g : jh w hT r n) (X : qL w hT A outer env σ ρ μ s.heap n) (ht : 1 <= s.toks) (hto : zu target = true) (hn : ρ[m]? = some d)
 (f0 : s.heap.get? I = none) (k12 : ∀ b o, s.heap.get? b = some o -> h2.get? b = some o) (hit : U4 h2 I d 0 1 1 .none .none) (D2 : h2.DictAt (PO prog w) d [(k, v)] 1) (hI : I < h2.objs.size) (hkl : k.length <= Pr) (rv0 : Rv hT ρ s.heap v p) (hb : qu σ target (.tup [.str k, p]) = some σ₂)
 (hm : (match r.ex σ₂ body μ with
   | some (.ok .next, σ₁, μ₁) => ((zi μ₁ m).bind one).bind fun zz => zh σ₁ .next μ₁
   | some (.error x, σ₁, μ₁) => some (.error x, σ₁, μ₁)
   | _ => none) = some (res, σ', μ')) (P : jT w hT env ρ s res σ' μ' Q E) :
 TC (MM w) A (.forLoop target (.ref I) body [] env) (fun r s' => match r with | .ok f => Q f s' | .error e => UJ (MM w) A env E e s') { s with heap := h2 } := by
 have hIo : I ∉ qy env := fun q => by
  obtain ⟨o, ho⟩ := X.er.there _ q
  rw [f0] at ho; exact no ho
 have hIρ : I ∉ ρ := fun q => by
  obtain ⟨o, ho, _⟩ := X.sr.data q
  rw [f0] at ho; exact no ho
 refine Uw (fun k s' => (k = 2 /\ s' = { s with heap := h2 }) \/ (k = 1 /\ res = .ok .next /\ ∃ h tk ρ₅, s' = { s with heap := h, toks := tk } /\ Mid w hT A outer env ρ s.heap d I m n σ' μ' h tk ρ₅)) ?_ 2 (.inl ⟨rfl, rfl⟩)
 rintro kk s' (⟨rfl, rfl⟩ | ⟨rfl, hres, h, tk, ρ₅, rfl, M⟩)
 ·refine Yj hto f0 k12 hit D2 hI hkl rv0 fun tv h3 go => go _ _ fun h4 k4 rt4 hi4 => ?_
  clear hit D2 hI
  have x4 : Le [] ρ s.heap ρ h4 := Le.of_keeps k4
  have X4 := X.le x4 (X.sr.keeps k4)
  refine w7 (s := { s with heap := h4 }) (own := qy env) hb X4.rm.1 ht X4.sr X4.er rt4 X4.nt (fun zz q => q) (.head _) (fun x zz => js env x) fun h₃ tk₃ x3 S3 R3 ht3 => ?_
  have X3 := X4.leOwn x3 S3 R3
  have le3 := x4.any.trans x3
  induction hex : r.ex σ₂ body μ with
  | none => rw [hex] at hm; exact no hm
  | some z =>
    obtain ⟨r1, σ₁, μ₁⟩ := z
    rw [hex] at hm
    refine g.ex A outer env σ₂ ρ μ { s with heap := h₃, toks := tk₃ } body X3 ht3 _ _ _ hex _ _ ⟨fun f h₄ tk₄ ρ₄ b e x4' S4 R4 rf ht4 => ?_, fun e h₄ tk₄ ρ₄ x e1 x4' S4 R4 ex ht4 => ?_⟩
    ·subst e
     induction rf with
     | next =>
       refine bK (o := (zi μ₁ m).bind one) hm fun kv5 h1 h2 => ?_
       have q := NK (show some ((.ok .next : Except Exn j6), σ₁, μ₁) = some (res, σ', μ') from h2)
       have hi3 : ∃ ok ov, U4 h₄ I d 1 1 1 ok ov := hi4.elim fun ok z => z.elim fun ov z => ⟨ok, ov, x4'.ex _ _ (x3.ex _ _ z hIρ hIo (fun es ep q => by exact nomatch q)) hIρ hIo (fun es ep q => by cases q)⟩
       exact ⟨1, RU _, .inr ⟨rfl, q.1, h₄, tk₄, ρ₄, rfl, ⟨le3.trans x4', q.2.1 ▸ q.2.2 ▸ X3.leOwn x4' S4 R4, hi3, ⟨kv5, by rw [q.2.2]; exact bK h1 fun l h3 h4 => by rw [h3, jM h4]⟩, hi4.elim fun ok z => z.elim fun ov z => x4'.out (x3.ex _ _ z hIρ hIo (fun es ep q => by exact nomatch q)) hIρ, ht4⟩⟩⟩
     | cont => exact no hm
     | brk => exact no hm
     | ret rv => exact no hm
    ·subst e1
     exact XI (own := []) (s := { s with heap := h₄, toks := tk₄ }) (X3.leOwn x4' S4 R4) (le3.trans x4') (fun zz q => nomatch q) (kO.le le3 ex) X.sr.top fun h₅ x5 S5 R5 ex5 => (P.of hm).err e h₅ tk₄ ρ₄ x rfl x5 S5 R5 ex5 ht4
 ·exact M.kw.elim fun kv hkw => (M.act.sr.kwAt (jn M.le.pre hn) hkw).elim fun kvs5 z => M.it.elim fun ok y => y.elim fun ov hi5 => VQ (m := m) (μ₀ := μ) (σ₀ := σ) (s := { s with toks := tk }) M.act f0 X.sr.top hIo M.nr M.le (by rw [show kvs5.length = 1 from z.2.2]; exact hi5) z.1 fun h6 a b c => wpAny_pure (P.ok .next h6 tk ρ₅ .next hres a b c .next M.tk)
theorem Kf {d I : PE} {target : Expr} {body : List Sf} {res : Except Exn j6} {h2 : PP} {Q : A9 -> Py -> Prop} {E : Pu -> Py -> Prop} (X : qL w hT A outer env σ ρ μ s.heap n) (ht : 1 <= s.toks) (f0 : s.heap.get? I = none) (k12 : ∀ b o, s.heap.get? b = some o -> h2.get? b = some o)
 (hit : U4 h2 I d 0 0 0 .none .none) (D2 : h2.DictAt (PO prog w) d [] 0) (hm : zh σ .next μ = some (res, σ', μ')) (P : jT w hT env ρ s res σ' μ' Q E) :
 TC (MM w) A (.forLoop target (.ref I) body [] env) (fun r s' => match r with | .ok f => Q f s' | .error e => UJ (MM w) A env E e s') { s with heap := h2 } := by
 refine Uw (fun zz s' => s' = { s with heap := h2 }) ?_ 1 rfl
 rintro k s' rfl
 refine wpAny_pyNext_items_end (s := { s with heap := h2 }) (knd := PO prog w) (kvs := []) X.rm.1 hit D2 rfl fun h3 hx => ?_
 have k3 : ∀ b o, s.heap.get? b = some o -> h3.get? b = some o := fun b o e => hx b o (fun z => by rw [z, f0] at e; exact no e) (k12 b o e)
 have x3 : Le [] ρ s.heap ρ h3 := Le.of_keeps k3
 exact wpAny_pure ((P.of hm).ok .next h3 s.toks ρ .next rfl x3.any (X.sr.keeps k3) (X.er.le X.sr x3) .next ht)
theorem Qi {m : Nat} {d : PE} {kl : Loc} {target : Expr} {body : List Sf} {res : Except Exn j6} {Q : A9 -> Py -> Prop} {E : Pu -> Py -> Prop} (g : jh w hT r n) (X : qL w hT A outer env σ ρ μ s.heap n) (ht : 1 <= s.toks) (hto : zu target = true)
 (hn : ρ[m]? = some d) (hl : zi μ m = some kl) (hm : (match (generalizing := false) kl with
   | [] => zh σ .next μ
   | kp :: l => if l.isEmpty && decide (kp.1.length <= Pr) then (qu σ target (.tup [.str kp.1, kp.2])).bind fun σ' => match r.ex σ' body μ with
      | some (.ok .next, σ₁, μ₁) => ((zi μ₁ m).bind one).bind fun zz => zh σ₁ .next μ₁
      | some (.error x, σ₁, μ₁) => some (.error x, σ₁, μ₁)
      | _ => none
     else none) = some (res, σ', μ')) (P : jT w hT env ρ s res σ' μ' Q E) :
 PQ (MM w) A (ct (.ref s.heap.objs.size)) (fun it s₂ => TC (MM w) A (.forLoop target it body [] env) (fun r s' => match r with | .ok f => Q f s' | .error e => UJ (MM w) A env E e s') s₂) E { s with heap := s.heap.push { cls := .type "dict_items", data := .fields #[.ref d] } } := by
 obtain ⟨kvs, D, hr, hlen⟩ := X.sr.kwAt hn hl
 induction kl using PD with
 | nil =>
   cases hr
   exact kn D fun h2 I f0 k12 hit D2 zz => Kf X ht f0 k12 hit D2 hm P
 | cons kp rest =>
   obtain ⟨hg, hm1⟩ := ifT hm
   have hkl := of_decide_eq_true (an hg).2
   have er := Rf.mp (an hg).1
   clear hm hg hl
   subst er
   obtain ⟨σ₂, hb, hm2⟩ := bnd hm1
   clear hm1 hlen
   cases hr with | cons rv0 rn =>
   cases rn
   exact kn D fun h2 I f0 k12 hit D2 hI => Kt g X ht hto hn f0 k12 hit D2 hI hkl rv0 hb hm2 P
theorem Zu {o target : Expr} {m : Str} {apos cpos pos : Pos} {body : List Sf} (g : jh w hT r n) (X : qL w hT A outer env σ ρ μ s.heap n) :
 j5 w hT A env ρ s (Ac (.For target (.Call (.Attribute o m apos) [] [] cpos) body [] pos) env) (if m == ("items" : Str) && qT o && apos.endLine == cpos.line && zu target then qC σ (r.ev σ o μ) (y8 r σ target body) else none) := by
 intro ht res σ' μ' hm Q E P
 obtain ⟨hg, hm1⟩ := ifT hm
 have g4 := an hg
 have g3 := an g4.1
 have g2 := an g3.1
 have e := qb g2.1
 clear hm hg
 subst e
 refine wpAny_For (yc g2.2 ((g.ev A _ env σ ρ μ s o X.toAct).thenS X ht hm1 P fun v h₁ tk₁ ρ₁ p μ₁ x1 S1 rv ht1 hm2 P1 X1 => ?_)) (FB rfl)
 refine bK hm2 fun m' h1 hm3 => bK hm3 fun kl hkl hm4 => ?_
 obtain ⟨d, e, hn⟩ := rv.lI h1
 subst e
 obtain ⟨kvs, D, hr, hlen⟩ := S1.kwAt hn hkl
 exact Q8 (s := { s with heap := h₁, toks := tk₁ }) (Ks D) (beq_eq_false_iff_ne.mpr (RZ (S1.low.2 d (Rr hn)))) g3.2 (Qi (s := { s with heap := h₁, toks := tk₁ }) g X1 ht1 g4.2 hn hkl hm4 P1)
theorem Kl {target iter : Expr} {body : List Sf} {pos : Pos} (g : jh w hT r n) (X : qL w hT A outer env σ ρ μ s.heap n) : j5 w hT A env ρ s (Ac (.For target iter body [] pos) env) (F7 r σ target iter body μ) := by
 unfold F7
 induction hq : xB iter with
 | none => exact Hu g X
 | some q => rw [kJ hq]; exact Zu g X
end
end
section
open PySem.Builtin
section
variable {w : Rk} {hT : PP} {A A' : RE} {l : List Env} {ρ ρ' ρ₀ : List PE} {μ μ₁ μ' : q4} {s : Py} {n : Nat} {env cenv : Env} {outer : List Env} {σ σ' : LE} {h h' h₀ : PP} {r : Ev}
theorem Yx {X nm : String} (FX : bJ X nm) {e t0 : PE} {m : Str} {tk : Tok} {Q : Pu -> Py -> Prop} {E : Pu -> Py -> Prop} (hu : A.in1.in1.units < cj) (x : s.heap.ExcAt e X (.ref t0)) (ht : s.heap.TupAt t0 [.str m tk]) (hq : Q (.str m tk) s) :
 PQ (MM w) A (call (.type "str") [.ref e]) Q E s := by
 refine callType_codes (T := "str") (Bi := TY.«object.__init__») (Q₁ := fun r s₁ => ∃ y u, r = .str y u /\ Q r s₁) UK (PySem.F.typeCall_str_1 _) PySem.F.entry_object_init ?_ ?_
 ·refine Av ?_
  show PQ _ A.in1.in1 (do checkBuiltinCall "str.__new__" ⟨[.type "str", .ref e], []⟩; again (.builtin "str.__new__" ⟨[.type "str", .ref e], []⟩)) _ _ s
  refine wpAny_bind (UV (PySem.F.newCall_str_1 _) (wpAny_pure ⟨plainId_quiet (by decide +kernel) _, codeAny_builtin PySem.F.entry_str_new ?_⟩))
  rw [RE.under_plainId (by decide +kernel) _]
  rw [str_new_tree]
  refine wpAny_bind (wpAny_pure ?_)
  refine wpAny_bind (UV isSubtype_str_str ?_)
  refine wpAny_bind (RG (strOf_exc_one (Q := fun r s₁ => ∃ y u, r = .str y u /\ Q r s₁) FX hu x ht ⟨_, _, rfl, hq⟩) (fun r s₁ hr => wpAny_pure hr) fun zz zz y => y)
 ·rintro obj s₁ ⟨y, u, rfl, hq⟩
  exact ⟨Sw _ _ _, PySem.F.args_object_init_2 _ _, object_init_meets UK.init.lookup UK.made (by decide) prog w A.in1 _ s₁ ⟨Sw _ _ _, rfl, hq⟩⟩
set_option tactic.hygienic true in
theorem Ky {c : Um} {k : Nat} {pos : Pos} {p : PV} {Q : Pu -> Py -> Prop} {E : Pu -> Py -> Prop} (hp : wX c = some p) (h : ∀ v tk, s.toks <= tk -> Rv hT ρ s.heap v p -> Q v { s with toks := tk }) : PQ (MM w) A (eval (.Constant c k pos) env) Q E s := by
 unfold wX at hp
 split at hp
 ·cases hp; exact av (h _ s.toks (PK _) .none)
 ·cases hp; exact aw (h _ s.toks (PK _) (.bool _))
 ·cases hp; exact U2 (h _ _ (by lia) (.int _ _))
 ·split at hp
  ·rename_i hl
   cases hp
   have e : Pr = 16777216 := by decide
   exact Sj (h _ _ (by lia) (.str _ _ (by lia)))
  ·cases hp
 ·cases hp
theorem LH : Tp (.type "ValueError") (.type "ValueError") = pure true := by rw [isSubtype_type]; kernel_rfl
theorem Lw : Tp (.type "IndexError") (.type "IndexError") = pure true := by rw [isSubtype_type]; kernel_rfl
theorem I4 : Tp (.type "ValueError") (.type "IndexError") = pure false := by rw [isSubtype_type]; kernel_rfl
theorem M6 : Tp (.type "IndexError") (.type "ValueError") = pure false := by rw [isSubtype_type]; kernel_rfl
theorem BF : Tp (.type "ValueError") (.type "BaseException") = pure true := by rw [isSubtype_type]; kernel_rfl
theorem Gk : Tp (.type "IndexError") (.type "BaseException") = pure true := by rw [isSubtype_type]; kernel_rfl
theorem B0 : Tp (.type ((a8 "ValueError").elim "type" fun x => x.metatype)) (.type "tuple") = pure false := by rw [isSubtype_type]; kernel_rfl
theorem KY : Tp (.type ((a8 "IndexError").elim "type" fun x => x.metatype)) (.type "tuple") = pure false := by rw [isSubtype_type]; kernel_rfl
theorem w3 (w : Rk) : nsIn (KK w) mainGlobals "IndexError" = some none := by kernel_rfl
theorem QE {c : Str} {x : Exn} (h : QP c x = true) : ∃ T, c = Pv T /\ Tp (.type T) (.type "BaseException") = pure true /\ Tp (.type ((a8 T).elim "type" fun x => x.metatype)) (.type "tuple") = pure false /\
 Tp (.type x.cls) (.type T) = pure (c == (x.cls : Str)) /\ Ub c = some (.type T) /\ (∀ w, nsIn (KK w) mainGlobals c = some none) /\ c ≠ "__name__" /\ (c == ("__debug__" : Str)) = false /\ ∃ nm, bJ x.cls nm := by
 unfold QP at h
 simp only [Rl, Tk, beq_iff_eq] at h
 obtain ⟨hc | hc, hx | hx⟩ := h
 ·subst hc; rw [hx]; exact ⟨"ValueError", rfl, BF, B0, by rw [LH]; rfl, by kernel_rfl, xn, by decide, by decide, _, UP⟩
 ·subst hc; rw [hx]; exact ⟨"ValueError", rfl, BF, B0, by rw [M6]; rfl, by kernel_rfl, xn, by decide, by decide, _, UQ⟩
 ·subst hc; rw [hx]; exact ⟨"IndexError", rfl, Gk, KY, by rw [I4]; rfl, by kernel_rfl, w3, by decide, by decide, _, UP⟩
 ·subst hc; rw [hx]; exact ⟨"IndexError", rfl, Gk, KY, by rw [Lw]; rfl, by kernel_rfl, w3, by decide, by decide, _, UQ⟩
end
end
section
open PySem.Builtin
section
variable {w : Rk} {hT : PP} {A A' : RE} {l : List Env} {ρ ρ' ρ₀ : List PE} {μ μ₁ μ' : q4} {s : Py} {n : Nat} {env cenv : Env} {outer : List Env} {σ σ₂ σ' : LE} {h h' h₀ : PP} {r : Ev}
theorem Mm {f : Str} {u : Option Pu} {m : Str -> Option Pu} (S : SR w hT ρ μ h) (R : qN hT ρ h env σ₂) (hsc : σ₂.sc = σ.sc) (hv : ∀ y, y ≠ f -> σ₂.vs.lookup y = σ.vs.lookup y) (hf : σ.vs.lookup f = none) (hl : σ.sc.lookup f = some .local) (hT0 : hT.get? env.locals = none)
 (hm : ∀ y q, σ₂.vs.lookup y = some q -> σ₂.sc.lookup y = some .local -> ∃ v, m y = some v /\ Rv hT ρ h v q)
 (hn : h'.Ns env.locals (fun z => if z = f then u else m z)) (hs : RK env.locals h h') : Le [env.locals] ρ h ρ h' /\ SR w hT ρ μ h' /\ qN hT ρ h' env σ := by
 have kb := KB.same hs
 have nt : NT [env.locals] h := fun b hb o e => R.nt b (by rw [Pw.mp hb]; exact .head _) o e
 have kv := kb.kv nt
 have hx : ∃ more, ρ = ρ ++ more := ⟨[], by simp⟩
 obtain ⟨o, es, ep, ho, hd, r⟩ := id hn
 refine ⟨Le.kb kb fun b hb => ?_, S.kb (fun b hb => ?_) kb nt, ?_⟩
 ·rw [Pw.mp hb]; exact ⟨o, ho⟩
 ·rw [Pw.mp hb]; exact ⟨R.loc, hT0⟩
 ·have cell : ∀ q ∈ env.cells, ∀ {v}, h.IsCell q.2 v -> h'.IsCell q.2 v := fun q hq v x => by
   obtain ⟨o, ho, hd⟩ := x
   exact ⟨o, (hs.2 _ (R.cells q hq).2.1).trans ho, hd⟩
  refine ⟨R.kind, hsc ▸ R.names, R.glob, R.blt, R.loc, ⟨_, hn, fun y q hy hk => ?_⟩, fun y q hy hk => ?_, fun q hq => ?_, R.sep, hsc ▸ R.has⟩
  ·have e : y ≠ f := fun z => by rw [z, hf] at hy; cases hy
   rw [if_neg e]
   obtain ⟨v', h1, h2⟩ := hm y q ((hv y e).trans hy) (hsc ▸ hk)
   exact ⟨v', h1, h2.mono hx kv⟩
  ·have e : y ≠ f := fun z => by rw [z, hf] at hy; cases hy
   obtain ⟨c, v', hc, hi, hr⟩ := R.cel y q ((hv y e).trans hy) (hsc ▸ hk)
   exact ⟨c, v', hc, cell (y, c) (mem_of_lookup hc) hi, hr.mono hx kv⟩
  ·obtain ⟨h1, h2, v', h3⟩ := R.cells q hq
   exact ⟨h1, h2, v', cell q hq h3⟩
theorem vd.typeIs {fl : Pu} {e : PE} {x : Exn} (N : vd fl h₀ s.heap e x) : s.TypeIs (.ref e) x.cls :=
 let ⟨oe, _, _, b, _⟩ := N
 ⟨oe, b.g, b.c⟩
theorem GN {e : PE} {x : Exn} {h2 h3 : PP} {t : Str} (S2 : SR w hT ρ μ h2) (R2 : qN hT ρ h2 env σ) (N : vd .none h₀ h2 e x) (x3 : Le (qy env) ρ h2 ρ h3) (hm : x.msg = some t) : ∃ t0 tk0, h3.ExcAt e x.cls (.ref t0) /\ h3.TupAt t0 [.str t tk0] := by
 obtain ⟨oe, vs, a0, ⟨h1, h2', h3', h4, h5, h6⟩, N⟩ := N
 clear N
 obtain ⟨t0, tk0, rfl, otup⟩ := h5 t hm
 have n1 : e ∉ ρ := fun q => by
  obtain ⟨o', ho', _, z, _⟩ := S2.data q
  rw [h1] at ho'; cases qk ho'
  exact z vs h3'
 have n2 : e ∉ qy env := fun q => by
  rcases R2.ownOK e q oe h1 with ⟨es, ep, z⟩ | ⟨v, z⟩ <;> (rw [h3'] at z; cases z)
 refine ⟨t0, tk0, ⟨oe, vs, x3.ex e oe h1 n1 n2 (fun es ep q => by rw [h3'] at q; cases q), h2', h3', h4⟩, ?_⟩
 obtain ⟨o, k, ho, hc, hd⟩ := otup
 obtain ⟨sl, ho'⟩ := S2.kv R2.ownOK x3 t0 o ho ⟨hc, _, _, hd⟩
 exact ⟨_, k, ho', hc, hd⟩
theorem W3 {st : Sf} {e : Expr} (h : Bk st = some e) : ∃ p, st = .Expr e p := fin (P := fun e => ∃ p, st = .Expr e p) (by clear h; induction st using Sy <;> first | exact U0 | exact ⟨_, rfl⟩) h
theorem W4 {b : List Sf} {q : Str × Str × Pos × Str × Str × Pos} (h : fQ b = some q) : ∃ yp fp gp gp2 ep, b = [.Expr (.Call (.Attribute (.Name q.1 yp) q.2.1 q.2.2.1) [.Call (.Name q.2.2.2.1 gp) [.Name q.2.2.2.2.1 fp] [] gp2] [] q.2.2.2.2.2) ep] := by
 refine bK h fun s0 z1 h => bK h fun e0 z2 h => bK h fun c z3 h => bK h fun a z4 h => bK h fun y1 z5 h => bK h fun x1 z6 h => bK h fun u z7 h => bK h fun f1 z8 h => iT h fun z9 h => ?_
 have eh := qk h
 clear h
 refine (W3 z2).elim fun ep z2 => (ja z5).elim fun yp z5 => (ja z8).elim fun fp z8 => (w2 z7).elim fun gp z7 => z7.elim fun gp2 z7 => ?_
 exact ⟨yp, fp, gp, gp2, ep, by rw [jM z1, z2, wF z3, wP z4, z5, jM z6, z7, z8, Rf.mp z9, <- eh]⟩
set_option tactic.hygienic true in
theorem VY {st : Sf} {e : Expr} (h : Hq st = some e) : ∃ p, st = .Return (some e) p := fin (P := fun e => ∃ p, st = .Return (some e) p) (by
 clear h
 induction st using Sy <;> first
 | exact U0
 | (rename_i v p; induction v <;> first | exact U0 | exact ⟨_, rfl⟩)) h
theorem Yv {b : List Sf} {k : Um} (h : Za b = some k) : ∃ kk kp rp, b = [.Return (some (.Constant k kk kp)) rp] := by
 refine bK h fun s z1 h => bK h fun e z2 h => (VY z2).elim fun rp z2 => (xw h).elim fun kk z3 => z3.elim fun kp z3 => ?_
 exact ⟨kk, kp, rp, by rw [jM z1, z2, z3]⟩
theorem BO {e : PE} {cls nm : String} {fs ys : Str} {t : Str} {m : Nat} {ll : List PV} {t0 : PE} {tk0 : Tok} {yp fp gp gp2 apos cpos ep : Pos} {Q : A9 -> Py -> Prop} {E : Pu -> Py -> Prop} (G : GF w hT) (S : SR w hT ρ μ s.heap) (R : qN hT ρ s.heap env σ) (hu : A.in1.in1.units < cj) (ht : 1 <= s.toks)
 (FX : bJ cls nm) (he : s.heap.ExcAt e cls (.ref t0)) (htup : s.heap.TupAt t0 [.str t tk0]) (k4 : σ.isG "str" = true) (k11 : (apos.endLine == cpos.line) = true) (k12 : (fs == ("__debug__" : Str)) = false) (k13 : (ys == ("__debug__" : Str)) = false)
 (hy : σ.get ys = some (.loc m)) (hf : σ.get fs = some (.val (.ref e))) (hl : q5 μ m = some ll) (hlen : ll.length + 1 <= Pr /\ t.length <= Pr)
 (k : ∀ h4 tk4 ρ4, Le [] ρ s.heap ρ4 h4 -> SR w hT ρ4 (qj μ m (.list (ll ++ [.str t]))) h4 -> 1 <= tk4 -> Q .next { s with heap := h4, toks := tk4 }) :
 PQ (MM w) A (execs [.Expr (.Call (.Attribute (.Name ys yp) "append" apos) [.Call (.Name "str" gp) [.Name fs fp] [] gp2] [] cpos) ep] env) Q E s := by
 refine wpAny_execs_cons (wpAny_Expr ?_ (by unfold interactive; rw [R.kind]; rfl) rfl)
 refine yc (o := .Name ys yp) rfl (vD R hy k13 fun a ra => ?_)
 obtain ⟨b, e1, hn⟩ := ra.inv
 subst e1
 obtain ⟨_, us, hp, hv⟩ := S.listAt hn hl
 refine qZ (yH rfl (show 1 < 10 by decide)) k11 fun pl => yj (w5 hp (show gJ.lookup (Pv "append") = some "list.append" from rfl)) ?_
 refine callWith_builtin (by rw [q9 rfl]; rfl) (qP (qI rfl) ?_)
 rw [q9 rfl]
 refine spliced_cons (jZ (zN (v := .type "str") G R S k4 (by kernel_rfl) (by kernel_rfl) (by decide) rfl ?_))
 refine TP (by rw [q9 rfl]; rfl) (qP (qI rfl) ?_)
 rw [q9 rfl]
 refine spliced_cons (vD R hf k12 fun v rv => Ta ?_)
 have e2 : v = .ref e := rv.inv
 subst e2
 refine Yx FX hu he htup (Ta ?_)
 exact gG hn S (.str t tk0 hlen.2) ht _ _ (show y6 m (.str t) μ = some (.ok .none, qj μ m (.list (ll ++ [.str t]))) by unfold y6; rw [hl, PL, if_pos hlen.1]) _ _ ⟨fun rv h4 tk4 ρ4 b eb x4 S4 rb ht4 => by
  cases eb
  rw [show rv = .none from rb.inv]
  exact Ax (k h4 tk4 ρ4 x4 S4 ht4), fun e h' tk ρ' x e1 => nomatch e1⟩
theorem Ya {f : Str} {pos : Pos} {σ₁ : LE} {Q : Unit -> Py -> Prop} {E : Pu -> Py -> Prop} (S : SR w hT ρ μ s.heap) (R : qN hT ρ s.heap env σ₁) (ht : 1 <= s.toks) (hnt : ∀ b ∈ qy env, hT.get? b = none) (hsc : σ₁.sc = σ.sc) (hv : ∀ y, y ≠ f -> σ₁.vs.lookup y = σ.vs.lookup y) (k10 : σ.vs.lookup f = none) (k5 : σ.sc.lookup f = some .local)
 (k : ∀ h6 tk, Le (qy env) ρ s.heap ρ h6 -> SR w hT ρ μ h6 -> qN hT ρ h6 env σ -> 1 <= tk -> Q () { s with heap := h6, toks := tk }) : PQ (MM w) A (do bindName env f .none; a9 env f pos) Q E s := by
 have hp2 : LE.put σ₁ f .none = some { σ₁ with vs := upd σ₁.vs f .none } := by unfold LE.put; rw [hsc, k5]; rfl
 refine wpAny_bind (AZ (xC (own := qy env) ht S R .none hp2 hnt (.head _) (js env f) fun h5 tk5 x5 S5 R5 ht5 => ?_))
 unfold a9
 refine aG ?_
 obtain ⟨mm, hns, hv5⟩ := R5.ns
 obtain ⟨v, hmf, _⟩ := hv5 f .none (by rw [j2, if_pos rfl]) (by show σ₁.sc.lookup f = _; rw [hsc]; exact k5)
 refine wpAny_unbindName_local (s := { s with heap := h5, toks := tk5 }) ((R5.kindOf (s := { s with heap := h5, toks := tk5 }) f).trans (by show σ₁.sc.lookup f = _; rw [hsc]; exact k5)) hns hmf (by rw [R5.kind]; rfl) fun h6 u hn6 hs6 => ?_
 have z := Mm (σ := σ) S5 R5 hsc (fun y hy => by rw [j2, if_neg hy]; exact hv y hy) k10 k5 (hnt _ (.head _)) hv5 hn6 hs6
 exact k h6 tk5 (x5.trans (z.1.weaken fun b zz zz q => by rw [Pw.mp q]; exact .head _)) z.2.1 z.2.2 ht5
structure CAF (σ : LE) (x : Exn) (c f y : Str) (ap cp : Pos) (μ : q4) (m : Nat) (t : Str) (ll : List PV) : Prop where
 ex : QP c x = true
 eq : (c == (x.cls : Str)) = true
 gc : σ.isG c = true
 gs : σ.isG "str" = true
 fl : σ.sc.lookup f = some .local
 fy : ¬ y = f
 fn : σ.vs.lookup f = none
 ln : (ap.endLine == cp.line) = true
 df : (f == ("__debug__" : Str)) = false
 dy : (y == ("__debug__" : Str)) = false
 gy : σ.get y = some (.loc m)
 ms : x.msg = some t
 pl : q5 μ m = some ll
 le : ll.length + 1 <= Pr /\ t.length <= Pr
theorem Ls {G : Prop} {x : Exn} {c f : Str} {b : List Sf} {q : Str × Str × Pos × Str × Str × Pos} {R : Except Exn j6 × LE × q4} (hb : fQ b = some q) (hm : Lb σ x c f q μ = some R)
 (k : ∀ m t ll yp fp gp gp2 ep, b = [.Expr (.Call (.Attribute (.Name q.1 yp) "append" q.2.2.1) [.Call (.Name "str" gp) [.Name f fp] [] gp2] [] q.2.2.2.2.2) ep] -> CAF σ x c f q.1 q.2.2.1 q.2.2.2.2.2 μ m t ll -> zh σ .next (qj μ m (.list (ll ++ [.str t]))) = some R -> G) : G := by
 refine iT hm fun hg hm1 => bK hm1 fun p hy hm2 => bK hm2 fun m hpl hm3 => bK hm3 fun t hmsg hm4 => bK hm4 fun ll hl hm5 => iT hm5 fun hlen hm6 => ?_
 have k13 := an hg
 have k12 := an k13.1
 have k11 := an k12.1
 have k10 := an k11.1
 have k9 := an k10.1
 have k8 := an k9.1
 have k7 := an k8.1
 have k6 := an k7.1
 have k5 := an k6.1
 have k4 := an k5.1
 have k3 := an k4.1
 have k2 := an k3.1
 have e8 := qb k8.2
 have e6 := qb k6.2
 have e7 := qb k7.2
 refine (W4 hb).elim fun yp eb => eb.elim fun fp eb => eb.elim fun gp eb => eb.elim fun gp2 eb => eb.elim fun ep eb => ?_
 refine k m t ll yp fp gp gp2 ep (by rw [eb, e6, e7, <- e8]) ⟨k2.1, k2.2, k3.2, by rw [<- e7]; exact k4.2, eq_of_beq k5.2, fun z => ?_, TG.mp k10.2, k11.2, nt k12.2, nt k13.2, by rw [hy, jJ hpl], hmsg, hl, hlen⟩ hm6
 have h9 := nt k9.2
 rw [z, beq_self_eq_true] at h9
 exact nomatch h9
theorem VJ {e : PE} {x : Exn} {c f : Str} {b : List Sf} {np hp : Pos} {rest : List Tn} {q : Str × Str × Pos × Str × Str × Pos} {res : Except Exn j6} {Q : A9 -> Py -> Prop} {E : Pu -> Py -> Prop} (G : GF w hT) (T0 : ∀ b o, hT.get? b = some o -> h₀.get? b = some o) (X : qL w hT A outer env σ ρ μ s.heap n) (ht : 1 <= s.toks)
 (LE0 : Le (qy env) ρ₀ h₀ ρ s.heap) (N : vd .none h₀ s.heap e x) (hb : fQ b = some q) (hm : Lb σ x c f q μ = some (res, σ', μ')) (P : jT w hT env ρ₀ { s with heap := h₀ } res σ' μ' Q E) :
 PQ (MM w) A (ci (.ref e) env (.ExceptHandler (some (.Name c np)) (some f) b hp :: rest)) Q E s := by
 refine Ls hb hm fun m t ll yp fp gp gp2 ep eb F hm6 => ?_
 have P := P.of hm6
 subst eb
 refine Xg ?_
 intro G0 kk
 obtain ⟨T, e1, f1, f2, f3, f4, f5, f6, f7, nm, FX⟩ := QE F.ex
 subst e1
 refine kk ?_
 have hp1 : σ.put f (.val (.ref e)) = some { σ with vs := upd σ.vs f (.val (.ref e)) } := by unfold LE.put; rw [F.fl]; rfl
 have hy1 : LE.get { σ with vs := upd σ.vs f (.val (.ref e)) } q.1 = some (.loc m) := by
  rw [<- F.gy]
  unfold LE.get
  rw [j2, if_neg F.fy]
 have hf1 : LE.get { σ with vs := upd σ.vs f (.val (.ref e)) } f = some (.val (.ref e)) := by
  unfold LE.get
  rw [j2, if_pos rfl, F.fl]; rfl
 refine wpAny_handleBy_builtin_as (X := x.cls) (T := T) (b := true) f1 f2 (f3.trans (by rw [F.eq])) ?_
 refine zN (v := .type T) G X.er X.sr F.gc (f5 w) f4 f6 f7 ⟨rfl, N.typeIs, ?_⟩
 rw [if_pos rfl]
 refine yP (hT := hT) (ρ := ρ) (f := none) N fun h2 W N2 => ?_
 have S2 := X.sr.written T0 W
 have R2 := X.er.written W
 have le2 : Le (qy env) ρ₀ h₀ ρ h2 := Le.writtenX (own := []) LE0 (fun zz q => nomatch q) W
 refine xC (own := qy env) (s := { s with heap := h2 }) ht S2 R2 (.val (.ref e)) hp1 X.nt (.head _) (js env f) fun h3 tk3 x3 S3 R3 ht3 => ?_
 obtain ⟨t0, tk0, hexc, htup⟩ := GN S2 R2 N2 x3 F.ms
 refine BO (s := { s with heap := h3, toks := tk3 }) G S3 R3 (show A.units + (1 + 1) < cj from RI (So (by decide : 1 + 1 <= 200) _) (gS X.rm)) ht3 FX hexc htup F.gs F.ln F.df F.dy hy1 hf1 F.pl F.le fun h4 tk4 ρ4 x4 S4 ht4 => ?_
 refine Ya (σ := σ) (s := { s with heap := h4, toks := tk4 }) S4 (R3.le S3 x4) ht4 X.nt rfl (fun y hy => by rw [j2, if_neg hy]) F.fn F.fl fun h6 tk6 x6 S6 R6 ht6 => ?_
 exact P.ok .next h6 tk6 ρ4 .next rfl (((le2.trans x3).trans x4.any).trans x6) S6 R6 .next ht6
theorem Km {e : PE} {x : Exn} {c : Str} {k : Um} {b : List Sf} {np hp : Pos} {rest : List Tn} {res : Except Exn j6} {Q : A9 -> Py -> Prop} {E : Pu -> Py -> Prop} (G : GF w hT) (T0 : ∀ b o, hT.get? b = some o -> h₀.get? b = some o) (X : qL w hT A outer env σ ρ μ s.heap n) (ht : 1 <= s.toks)
 (LE0 : Le (qy env) ρ₀ h₀ ρ s.heap) (N : vd .none h₀ s.heap e x) (hb : Za b = some k) (hg : (σ.isG c && QP c x) = true) (hm : (if c == (x.cls : Str) then (wX k).bind fun p => zh σ (.ret p) μ else yT σ x rest μ) = some (res, σ', μ')) (P : jT w hT env ρ₀ { s with heap := h₀ } res σ' μ' Q E)
 (ih : yT σ x rest μ = some (res, σ', μ') -> PQ (MM w) A (ci (.ref e) env rest) Q E s) :
 PQ (MM w) A (ci (.ref e) env (.ExceptHandler (some (.Name c np)) none b hp :: rest)) Q E s := by
 obtain ⟨T, e1, f1, f2, f3, f4, f5, f6, f7, f8⟩ := QE (an hg).2
 obtain ⟨kk, kp, rp, eb⟩ := Yv hb
 clear hb
 subst e1 eb
 refine wpAny_handleBy_builtin (X := x.cls) (T := T) f1 f2 f3 ?_
 refine zN (v := .type T) G X.er X.sr (an hg).1 (f5 w) f4 f6 f7 ⟨rfl, N.typeIs, ?_⟩
 cases hc : (Pv T == Pv x.cls) with
 | true =>
   rw [hc] at hm
   obtain ⟨p, hpc, hm⟩ := bnd hm
   rw [if_pos rfl]
   refine yP (hT := hT) (ρ := ρ) (f := none) N fun h2 W N2 => ?_
   have le2 : Le (qy env) ρ₀ h₀ ρ h2 := Le.writtenX (own := []) LE0 (fun zz q => nomatch q) W
   exact wpAny_execs_cons (wpAny_Return_some (Ky (hT := hT) (ρ := ρ) (s := { s with heap := h2 }) hpc fun v tk htk rv => (P.of hm).ok (.ret v) h2 tk ρ (.ret p) rfl le2 (X.sr.written T0 W) (X.er.written W) (.ret rv) (Pq ht htk)))
 | false =>
   rw [hc] at hm
   rw [if_neg (by decide)]
   exact ih hm
theorem VN {e : PE} {x : Exn} {res : Except Exn j6} {Q : A9 -> Py -> Prop} {E : Pu -> Py -> Prop} (G : GF w hT) (T0 : ∀ b o, hT.get? b = some o -> h₀.get? b = some o) (X : qL w hT A outer env σ ρ μ s.heap n) (ht : 1 <= s.toks)
 (LE0 : Le (qy env) ρ₀ h₀ ρ s.heap) (N : vd .none h₀ s.heap e x) (P : jT w hT env ρ₀ { s with heap := h₀ } res σ' μ' Q E) (hs : List Tn) :
 yT σ x hs μ = some (res, σ', μ') -> PQ (MM w) A (ci (.ref e) env hs) Q E s := by
 induction hs with
 | nil => exact fun hm => no hm
 | cons hd rest ih =>
   obtain ⟨t, f, b, hp⟩ := hd
   intro hm
   obtain ⟨c, hc, hm⟩ := bnd (o := t.bind qW) hm
   obtain ⟨e0, ht0, hc⟩ := bnd hc
   obtain ⟨np, hc⟩ := ja hc
   rw [ht0, hc]
   induction f with
   | some f => obtain ⟨q, hb, hm⟩ := bnd (o := fQ b) hm; exact VJ G T0 X ht LE0 N hb hm P
   | none =>
     obtain ⟨k, hb, hm⟩ := bnd (o := Za b) hm
     obtain ⟨hg, hm⟩ := ifT hm
     exact Km G T0 X ht LE0 N hb hg hm P ih
end
end
section
open PySem.Builtin
section
variable {w : Rk} {hT : PP} {A A' : RE} {l : List Env} {ρ ρ' ρ₀ : List PE} {μ μ₁ μ' : q4} {s : Py} {n : Nat} {env cenv : Env} {outer : List Env} {σ σ₂ σ' : LE} {h h' h₀ : PP} {r : Ev}
theorem LN {body : List Sf} {hs : List Tn} {pos : Pos} (G : GF w hT) (g : jh w hT r n) (X : qL w hT A outer env σ ρ μ s.heap n) (hne : (!hs.isEmpty) = true) : j5 w hT A env ρ s (Ac (.Try body hs [] [] pos) env) (Kc r σ body hs μ) := by
 induction hs using PD with
 | nil => exact noB hne
 | cons hd hs =>
 intro ht res σ' μ' hm Q E P
 unfold Kc at hm
 refine wpAny_Try_except ?_
 induction hex : r.ex σ body μ with
 | none => rw [hex] at hm; exact no hm
 | some z =>
   obtain ⟨r1, σ₁, μ₁⟩ := z
   rw [hex] at hm
   refine g.ex A outer env σ ρ μ s body X ht _ _ _ hex _ _ ⟨fun f h₄ tk₄ ρ₄ b e x4 S4 R4 rf ht4 => ?_, fun e h₄ tk₄ ρ₄ x e1 x4 S4 R4 ex ht4 => ?_⟩
   ·subst e
    have P := P.of hm
    induction rf with
    | next => exact Ax (P.ok .next h₄ tk₄ ρ₄ .next rfl x4 S4 R4 .next ht4)
    | cont => exact P.ok .cont h₄ tk₄ ρ₄ .cont rfl x4 S4 R4 .cont ht4
    | brk => exact P.ok .brk h₄ tk₄ ρ₄ .brk rfl x4 S4 R4 .brk ht4
    | ret rv => exact P.ok (.ret _) h₄ tk₄ ρ₄ (.ret _) rfl x4 S4 R4 (.ret rv) ht4
   ·subst e1
    obtain ⟨_, hm1⟩ := ifB (show (if x.here = true then none else yT σ₁ x (hd :: hs) μ₁) = some (res, σ', μ') from hm)
    have X4 := X.leOwn x4 S4 R4
    have there : ∀ {h'}, Le (qy env) ρ s.heap ρ₄ h' -> ∀ b, s.heap.get? b ≠ none -> h'.get? b ≠ none := fun y b hb => by
     induction q : s.heap.get? b with
     | none => exact absurd q hb
     | some o => obtain ⟨o', ho'⟩ := y.st b o q; rw [ho']; simp
    refine XO (s := { s with heap := h₄, toks := tk₄ }) X4.sk X4.fr ex (there x4) fun h1 W1 N1 => ?_
    refine yP (hT := hT) (ρ := ρ₄) (s := { s with heap := h1, toks := tk₄ }) (f := none) N1 fun h2 W2 N2 => ?_
    have W := W1.trans W2
    have X5 : qL w hT A outer env σ₁ ρ₄ μ₁ h2 n := ⟨⟨S4.written X.sr.top W, R4.written W, X4.sk.written W, X4.rm⟩, X4.fr, X4.ap, X4.nt⟩
    exact VN (h₀ := s.heap) (ρ₀ := ρ) (s := { s with heap := h2, toks := tk₄ }) G X.sr.top X5 ht4 (Le.writtenX (own := []) x4 (fun zz q => nomatch q) W) N2 ⟨fun f h' tk ρ' b e => P.ok f h' tk ρ' b e, fun e h' tk ρ' x e1 => P.err e h' tk ρ' x e1⟩ (hd :: hs) hm1
set_option tactic.hygienic true in
theorem D3 {t e : Expr} {pos : Pos} (G : GF w hT) (g : jh w hT r n) (X : qL w hT A outer env σ ρ μ s.heap n) : j5 w hT A env ρ s (Ac (.Assign [t] e pos) env) (Xb r σ t e μ) := by
 induction t using PC with
 | Name x p => exact gL g X
 | Tuple ts k p =>
   induction he : zu e with
   | true => obtain ⟨es, k2, vp, e1⟩ := xZ he; subst e1; exact Ck g X
   | false =>
     rw [show Xb r σ (.Tuple ts k p) e μ = if ts.any qf then none else qC σ (r.ev σ e μ) (xv σ ts) by induction e using PC <;> first | rfl | exact noB he.symm]
     exact gF g X he
 | Attribute o name p =>
   show j5 w hT A env ρ s _ ((qW o).bind fun y => Wl r σ y name e μ)
   induction ho : qW o with
   | none => exact j5.none
   | some y => obtain ⟨py, e1⟩ := ja ho; subst e1; exact Jo G g X
 | Subscript o i p =>
   induction hi : vc i with
   | true =>
     induction i using PC <;> first | exact noB hi | skip
     rename_i lo up st sp
     induction lo with
     | some _ => exact j5.none
     | none => induction up with
       | some _ => exact j5.none
       | none => induction st with
         | some _ => exact j5.none
         | none => exact Qg g X
   | false =>
     rw [show Xb r σ (.Subscript o i p) e μ = FS r σ o i e μ by induction i using PC <;> first | rfl | exact noB hi.symm]
     exact ZV G g X
 | _ => exact j5.none
theorem IY {ts : List Expr} {e : Expr} {pos : Pos} (G : GF w hT) (g : jh w hT r n) (X : qL w hT A outer env σ ρ μ s.heap n) : j5 w hT A env ρ s (Ac (.Assign ts e pos) env) (HF r σ ts e μ) := by
 induction ts using PD with
 | nil => exact j5.none
 | cons t ts => induction ts using PD with
   | nil => exact D3 G g X
   | cons u us => induction us using PD with
     | cons _ _ => exact j5.none
     | nil =>
       show j5 w hT A env ρ s _ ((qW t).bind fun x => (qW u).bind fun y => qC σ (r.ev σ e μ) fun v μ => (σ.put x v).bind fun σ => kZ σ y v μ)
       induction h1 : qW t with
       | none => exact j5.none
       | some x => induction h2 : qW u with
         | none => exact j5.none
         | some y => obtain ⟨_, e1⟩ := ja h1; obtain ⟨_, e2⟩ := ja h2; subst e1 e2; exact XN g X
theorem Ec (G : GF w hT) (g : jh w hT r n) {st : Sf} (X : qL w hT A outer env σ ρ μ s.heap n) : j5 w hT A env ρ s (Ac st env) (wT r σ st μ) := by
 induction st using Sy with
 | Expr e p => exact Ew g X
 | Return e p => induction e with
   | some e => exact Kj g X
   | none => exact j5.none
 | Continue p => exact Xp X
 | Assign ts e p => exact IY G g X
 | Delete ts p =>
   intro ht res σ' μ' hm Q E P
   obtain ⟨t, h1, hm1⟩ := bnd (o := one ts) hm
   have e1 := jM h1
   clear hm h1
   subst e1
   induction t using PC <;> first | exact no hm1 | exact Vt G g X ht _ _ _ hm1 Q E P
 | AugAssign t op e p => exact LA g X
 | If t b o p => exact Nf G g X
 | For t it b o p => induction o using PD with
   | nil => exact Kl g X
   | cons _ _ => exact j5.none
 | Raise e c p => exact Fg G X
 | Try b hs o f p =>
   intro ht res σ' μ' hm Q E P
   obtain ⟨hg, hm1⟩ := ifT (x := Kc r σ b hs μ) hm
   have e1 := Rf.mp (an hg).2
   have e2 := Rf.mp (an (an hg).1).2
   subst e1 e2
   exact LN G g X (an (an hg).1).1 ht _ _ _ hm1 Q E P
 | _ => exact j5.none
theorem FN (G : GF w hT) (g : jh w hT r n) (body : List Sf) : ∀ {σ : LE} {ρ : List PE} {μ : q4} {s : Py}, qL w hT A outer env σ ρ μ s.heap n -> j5 w hT A env ρ s (execs body env) (zo r σ body μ) := by
 induction body with
 | nil => exact fun X ht res σ' μ' hm Q E P => Ax ((P.of hm).ok .next _ _ _ .next rfl (Le.refl _ _ _) X.sr X.er .next ht)
 | cons st rest ih =>
   intro σ ρ μ s X ht res σ' μ' hm Q E P
   rw [zo.eq_2] at hm
   refine wpAny_execs_cons ?_
   induction hst : wT r σ st μ with
   | none => rw [hst] at hm; exact no hm
   | some z =>
     obtain ⟨r1, σ₁, μ₁⟩ := z
     rw [hst] at hm
     refine Ec G g X ht _ _ _ hst _ _ ⟨fun f h₄ tk₄ ρ₄ b e x4 S4 R4 rf ht4 => ?_, fun e h₄ tk₄ ρ₄ x e1 x4 S4 R4 ex ht4 => ?_⟩
     ·subst e
      induction rf with
      | next => exact ih (s := { s with heap := h₄, toks := tk₄ }) (X.leOwn x4 S4 R4) ht4 _ _ _ hm Q E (P.le x4)
      | cont => exact (P.of hm).ok .cont h₄ tk₄ ρ₄ .cont rfl x4 S4 R4 .cont ht4
      | brk => exact (P.of hm).ok .brk h₄ tk₄ ρ₄ .brk rfl x4 S4 R4 .brk ht4
      | ret rv => exact (P.of hm).ok (.ret _) h₄ tk₄ ρ₄ (.ret _) rfl x4 S4 R4 (.ret rv) ht4
     ·subst e1
      exact (P.of hm).err e h₄ tk₄ ρ₄ x rfl x4 S4 R4 ex ht4
theorem VL (G : GF w hT) (g : jh w hT r n) : jh w hT (Ff (ftK w) r) (n + 1) where
 ev := fun A l env σ ρ μ s e X => D4 G g.ev g.call A l env σ ρ μ s e X
 ex := fun A outer env σ ρ μ s body X => FN G g body X.down
 call := fun A l ρ μ s a vs ps kws kps S K R rvs rkw => GM G S K R rvs rkw g.ex
 use := FL G g.ev
theorem Fj (G : GF w hT) (n : Nat) : jh w hT (evN (ftK w) n) n := by
 induction n with
 | zero => exact ⟨fun zz zz zz zz zz zz zz zz zz => Sim.none, fun zz zz zz zz zz zz zz zz zz => j5.none, fun zz zz zz zz zz zz zz zz zz zz zz zz zz zz zz zz zz zz hm => no hm, fun zz zz zz zz zz zz zz zz zz zz zz zz zz zz => j5.none⟩
 | succ n ih => exact VL G ih
end
end
section
variable {w : Rk} {hT : PP} {A : RE} {ρ ρ' : List PE} {μ μ₁ μ' : q4} {s : Py} {n : Nat} {env : Env} {outer : List Env} {σ σ' : LE} {h h' : PP}
set_option tactic.hygienic true in
theorem FJ {a : PE} {fd : UG} {body : List Sf} {x : Str} {v : Pu} {p : PV} {m : SR'} (G : GF w hT) (hfd : yU w a = some fd) (hok : KO (KK w) fd = true) (hbody : fd.body = .stmts body)
 (S : SR w hT ρ μ s.heap) (K : Stk hT A ρ s.heap outer) (R : jX A (n + 1)) (hx : fd.scope.names.lookup x = some .local) (hcl : ∀ q ∈ fd.scope.names, q.2 ≠ .cell) (rv : Rv hT ρ s.heap v p)
 (hbind : RW fd ⟨[v], []⟩ = pure [(x, v)])
 (hex : ∀ env ρ₁ s₁, qL w hT (A.deeper env) outer env ⟨fd.scope.names, [(x, p)]⟩ ρ₁ μ s₁.heap n -> j5 w hT (A.deeper env) env ρ₁ s₁ (execs body env) m) {b : PV} {μ' : q4} (hm : zX m = some (.ok b, μ')) {Q : Pu -> Py -> Prop} {E : Pu -> Py -> Prop}
 (hQ : ∀ a h' tk ρ', Le [] ρ s.heap ρ' h' -> SR w hT ρ' μ' h' -> Rv hT ρ' h' a b -> Q a { s with heap := h', toks := tk }) :
 PQ (MM w) A (call (.ref a) [v]) Q E s := by
 refine Ak ?_
 unfold KO at hok
 simp only [Rl, beq_iff_eq, decide_eq_true_eq, S8] at hok
 obtain ⟨⟨⟨⟨⟨⟨⟨g1, g2⟩, g3⟩, g4⟩, g5⟩, g6⟩, g7⟩, g8⟩ := hok
 have hlook : ∃ c d sl, (KK w).lookup a = some ⟨c, d, .func fd, sl⟩ := by
  unfold yU at hfd
  split at hfd
  ·rename_i c d fd' sl e
   cases hfd
   exact ⟨c, d, sl, e⟩
  ·cases hfd
 obtain ⟨oc, od, osl, hlook⟩ := hlook
 obtain ⟨X, mean, mg, mb, T⟩ := G
 have hin : ∀ {hh : PP}, (∀ b o, hT.get? b = some o -> hh.get? b = some o) -> (KK w).In hh := fun k => X.keeps k
 have hclo : fd.closure = [] := Rf.mp g2
 refine Az (fd := fd) (body := body) (by have := R.2.1; lia) (hin S.top a _ hlook) rfl g5 g4 hbody (codeRec_of (hin S.top) g7) ?_
 rw [hbind]
 refine wpAny_pure ?_
 rw [hclo]
 refine wpAny_newFunctionEnv hcl (fun q hq => by rw [Pw.mp hq]; exact hx) (fun h₂ hns hsb => ?_) g6
 simp only [Td, R7, if_false] at hsb
 obtain ⟨env, he⟩ : ∃ env, env = newEnv fd.scope s.heap.objs.size fd.globals [] (fd.qualname ++ ".<locals>.") (some a) fd.code none fd.builtins := ⟨_, rfl⟩
 rw [<- he]
 have hloc : env.locals = s.heap.objs.size := by rw [he]; rfl
 have hcells : env.cells = [] := by rw [he]; rfl
 have hown : qy env = [s.heap.objs.size] := by unfold qy; rw [hloc, hcells]; rfl
 have hks : ∀ b o, s.heap.get? b = some o -> h₂.get? b = some o := fun b o e => (hsb.2 b (RQ (RJ e))).trans (qg _ _ b o e)
 have hf0 : ∀ b ∈ qy env, s.heap.get? b = none := fun b hb => by rw [hown] at hb; rw [Pw.mp hb]; exact XL _
 have hρ : ∀ b ∈ qy env, b ∉ ρ := fun b hb q => by
  obtain ⟨o, ho, _⟩ := S.data q
  rw [hf0 b hb] at ho; cases ho
 have x2 : Le [] ρ s.heap ρ h₂ := Le.of_keeps hks
 have S2 : SR w hT ρ μ h₂ := S.keeps hks
 have hnt : ∀ b ∈ qy env, hT.get? b = none := fun b hb => by
  induction q : hT.get? b with
  | none => rfl
  | some o => have := S.top b o q; rw [hf0 b hb] at this; cases this
 have hfrm : env.frame = some env.locals := by rw [he]; rfl
 have kv : Kv s.heap h₂ := Kv.of_keeps hks
 have ER : qN hT ρ h₂ env ⟨fd.scope.names, [(x, p)]⟩ := by
  refine ⟨by rw [he]; exact g6, by rw [he]; rfl, by rw [he]; exact g1, by rw [he]; exact g3, hρ _ (.head _), ⟨_, by rw [hloc]; exact hns, fun y q hy hk => ?_⟩, fun y q hy hk => ?_, fun q hq => ?_, fun q hq => ?_, fun y hy => ?_⟩
  ·simp only [Ry, List.lookup_nil] at hy
   show ∃ u, ([(x, v)] : List (Str × Pu)).lookup y = some u /\ _
   rw [Ry]
   induction hb : (y == x) with
   | true =>
     rw [hb] at hy
     cases hy
     exact ⟨v, rfl, rv.mono ⟨[], by simp⟩ kv⟩
   | false => rw [hb] at hy; cases hy
  ·exact absurd rfl (hcl _ (mem_of_lookup hk))
  ·rw [hcells] at hq; cases hq
  ·rw [hcells] at hq; cases hq
  ·exact absurd rfl (hcl _ (mem_of_lookup hy))
 have K3 : Stk hT (A.deeper env) ρ h₂ (env :: outer) := by
  obtain ⟨o, es, ep, ho, hd, _⟩ := hns
  have hfl : env.frame = some s.heap.objs.size := hfrm.trans (by rw [hloc])
  have hm0 : s.heap.objs.size ∈ qy env := by rw [hown]; exact .head _
  refine ⟨by show A.frames.map (env :: ·) = _; rw [K.fr]; rfl, ⟨by rw [ER.kind]; decide, ⟨_, o, hfl, hnt _ hm0, ho, fun vs q => by rw [hd] at q; exact nomatch q⟩, (K.le x2).ff⟩, fun e' he' L hL => ?_⟩
  rcases Rq.mp he' with rfl | he'
  ·rw [hfl] at hL; cases hL
   exact ⟨hρ _ hm0, o, ho, es, ep, hd⟩
  ·exact (K.le x2).out e' he' L hL
 have act : qL w hT (A.deeper env) outer env ⟨fd.scope.names, [(x, p)]⟩ ρ μ h₂ n := by
  refine ⟨⟨S2, ER, K3, ⟨R.1, ?_, ?_⟩⟩, hfrm, fun e' he' L hL hm => ?_, hnt⟩
  ·have := R.2.1; show A.depth + 1 + n + 20 < _; lia
  ·have := R.2.2; show A.units + 3 + 20 * n + 200 < _; lia
  ·obtain ⟨_, o, ho, _⟩ := K.out e' he' L hL
   rw [hf0 L hm] at ho; cases ho
 refine ⟨(T.nolimit.keeps S.top).keeps hks, codeAny_func ?_⟩
 have strip : ∀ {ρ' : List PE} {h' : PP}, Le (qy env) ρ h₂ ρ' h' -> Le [] ρ s.heap ρ' h' := fun y => (x2.any.trans y).weaken fun b o e q => by rw [hf0 b q] at e; cases e
 obtain ⟨⟨r1, σ', μ₂⟩, e1, hm1⟩ := bnd hm
 clear hm
 subst e1
 induction r1 with
 | error x => have q := wU (show some ((.error { x with here := false } : Except Exn PV), μ₂) = some (.ok b, μ') from hm1); exact nomatch q.1
 | ok f =>
   refine hex env ρ { s with heap := h₂, toks := s.toks + [(x, v)].length } act (Rb (Rj _)) _ _ _ rfl _ _ ⟨fun f h' tk ρ' b e y S' E' rf ht' => ?_, fun e h' tk ρ' x e' => (nomatch e')⟩
   cases e
   induction rf with
   | next => have q := wU (show some ((.ok .none : Except Exn PV), μ₂) = some (.ok _, μ') from hm1); cases q.1; exact hQ _ h' tk ρ' (strip y) (q.2 ▸ S') .none
   | ret rv => have q := wU (show some ((.ok _ : Except Exn PV), μ₂) = some (.ok _, μ') from hm1); cases q.1; exact hQ _ h' tk ρ' (strip y) (q.2 ▸ S') rv
   | _ => exact no hm1
end
theorem IF (w : Rk) : nsIn (KK w) mainGlobals "law" = some (some (.ref 250)) := by kernel_rfl
theorem Lg (w : Rk) : ((j7 w 250).scope.names.all (fun q => !(q.2 == .cell)) && (j7 w 250).scope.names.lookup (Pv "script") == some Sm.local && jy w 250 == [Pv "script"] && YG w 250 (jy w 250) [] none) = true := by kernel_rfl
theorem Cq (w : Rk) : ((KK w).lookup 250).isSome = true := by kernel_rfl
def Im : Prop := ∀ (w : Rk) (xs : List Int), xs.length <= 63 -> ∃ μ', (evN (ftK w) 201).call 250 [.il xs] [] [] = some (.ok (.bool true), μ')
theorem C2 (L : Im) {w : Rk} {hT : PP} {s : Py} {a : PE} {vs : List Pu} {xs : List Int} (G : GF w hT) (hs : s.heap = hT) (hl : hT.IsList a vs.toArray) (hi : bU vs xs) (hlen : xs.length <= 63)
 {Q : Pu -> Py -> Prop} {E : Pu -> Py -> Prop} (h : ∀ h' tk, (∀ b o, hT.get? b = some o -> h'.get? b = some o) -> Q (.bool true) { s with heap := h', toks := tk }) :
 PQ (MM w) callerA (call (.ref 250) [.ref a]) Q E s := by
 obtain ⟨μ', hm⟩ := L w xs hlen
 obtain ⟨o, ho⟩ := Se.mp (Cq w)
 have S : SR w hT [] [] s.heap := ⟨fun b o e => hs ▸ e, UL, rfl, fun zz q => (nomatch q), ⟨⟨250, o, by decide, G.1 _ _ ho⟩, fun zz q => (nomatch q)⟩, fun zz zz zz q => (nomatch q)⟩
 have K : Stk hT callerA [] s.heap [] := ⟨rfl, trivial, fun zz q => (nomatch q)⟩
 have R : jX callerA (200 + 1) := ⟨rfl, by decide, by decide⟩
 obtain ⟨q3, ok⟩ := an (Lg w)
 obtain ⟨q2, q1⟩ := an q3
 obtain ⟨q0, qs⟩ := an q2
 have q1 := eq_of_beq q1
 obtain ⟨ok, o6⟩ := an ok
 obtain ⟨ok, o5⟩ := an ok
 obtain ⟨ok, o4⟩ := an ok
 obtain ⟨ok, o3⟩ := an ok
 obtain ⟨o1, o2⟩ := an ok
 have hfd := Wx o1
 have hm : yq (ftK w) (evN (ftK w) 200) 250 [.il xs] [] [] = some (.ok (.bool true), μ') := hm
 obtain ⟨f, hf, hm1⟩ := bnd hm
 obtain ⟨⟨σ, μ₁⟩, hbp, hm2⟩ := bnd hm1
 obtain ⟨_, hf⟩ := ifT hf
 rw [hfd] at hf
 have hf : fY (j7 w 250) = some f := hf
 unfold fY at hf
 induction hbd : (j7 w 250).body with
 | stmts body =>
   rw [hbd] at hf
   have hf := qk hf
   have n1 : f.names = [Pv "script"] := by rw [<- hf]; exact q1
   obtain ⟨_, _, _, e1, e2⟩ := y3 (by rw [<- hf]; exact eq_of_beq o4) (by rw [<- hf]; exact eq_of_beq o5) hbp
   rw [n1] at e1
   have e1 : σ = ⟨f.sc, [(Pv "script", .il xs)]⟩ := e1
   have e3 : f.body = body := by rw [<- hf]
   have e4 : f.sc = (j7 w 250).scope.names := by rw [<- hf]
   rw [e1, e2, e3, e4] at hm2
   refine FJ (n := 200) (μ := []) (ρ := []) (s := s) (x := Pv "script") (p := .il xs) (b := .bool true) (μ' := μ') (m := (evN (ftK w) 200).ex ⟨(j7 w 250).scope.names, [(Pv "script", .il xs)]⟩ body []) G hfd o2 hbd S K R (eq_of_beq qs) (fun q hq e => ?_) (.il hl hi) ?_ (fun env ρ₁ s₁ act => (Fj G 200).ex _ [] env _ ρ₁ [] s₁ body act) hm2 fun v h' tk ρ' y S' rv => ?_
   ·have := nt (PT.mp q0 q hq)
    rw [e] at this; exact noB this.symm
   ·exact (fH w (250, 1) (by decide) [.ref a] rfl).trans (by rw [q1]; rfl)
   ·exact rv.inv ▸ h h' tk S'.top
 | _ => rw [hbd] at hf; exact no hf
set_option tactic.hygienic true in
theorem link (L : Im) : Ti.Holds := by
 have H : Ti.row.Holds := by
  refine Mine.hd ?_
  intro w s₀ s₁ mg mb Gr Y fa o pm cd doc dV kV ho hd hcd hD hg hgens args vals as hpre hlay hrd hwl hlo
  have KI : (KK w).In s₁.heap := kIn_of Y
  have T := Gr.T
  have hfa : fa = 250 := by
   have := mg_of KI T.g (IF w)
   rw [show mg "law" = some (.ref fa) from hg] at this
   cases this; rfl
  subst hfa
  have GFw : GF w s₁.heap := ⟨KI, _, mg, mb, T⟩
  wrow_args hpre hlay hrd hwl hlo
  rename_i xs _ _ _ _ _ as1 as2 la us as3 hL ra _ _ hI _ hlen _
  have hlen : xs.length <= 63 := by omega
  refine C2 L GFw rfl hL hI hlen fun h' tk keep => ?_
  refine ⟨.inl ⟨.bool true, .bool true, [], rfl, fun zz => rfl, .bool _, ?_, fun zz => ⟨UL, fun zz q => nomatch q⟩⟩, .of_keep keep, rfl, .of_eq hgens⟩
  wrow_post
 exact ⟨by unfold OpenLaw.wellSaid; rw [H.1]; decide +kernel, H⟩
noncomputable def Xh : Sf -> Option (Str × Fn)
 | .FunctionDef n a b _ _ _ sc _ _ _ => some (n, { sc := sc.names, names := a.args.map (·.arg), kwonly := a.kwonlyargs.map (·.arg), kwarg := a.kwarg.map (·.arg), body := b })
 | _ => none
noncomputable def Iz : List (Str × Fn) := PySem.Challenge.pw_pk0114_01.main.body.flatMap fun st => match st with
 | .ClassDef _ _ _ b _ _ _ _ _ _ _ => b.filterMap Xh
 | s => (Xh s).toList
noncomputable def Vh : List (PE × Str) := (fns.map fun (n, a) => (a, n)) ++ (vA.map fun (n, a) => (a, n)) ++ ([(81, "__init__"), (102, "__setitem__"), (107, "__delitem__"), (121, "__contains__"), (163, "__str__"), (250, "law")] : List (PE × Str))
noncomputable def ftT : FT := fun a => (Vh.lookup a).bind fun n => Iz.lookup n
theorem NX (w : Rk) : ∀ a ∈ ([38, 43, 196, 201, 208, 215, 220, 225, 230, 235, 240, 245, 250, 102, 107, 121, 126, 163, 177, 66, 81, 134, 88, 184] : List PE), ftK w a = ftT a :=
 open List in
 forall_mem_cons.mpr ⟨(by kernel_rfl : ftK w 38 = ftT 38),
 forall_mem_cons.mpr ⟨(by kernel_rfl : ftK w 43 = ftT 43),
 forall_mem_cons.mpr ⟨(by kernel_rfl : ftK w 196 = ftT 196),
 forall_mem_cons.mpr ⟨(by kernel_rfl : ftK w 201 = ftT 201),
 forall_mem_cons.mpr ⟨(by kernel_rfl : ftK w 208 = ftT 208),
 forall_mem_cons.mpr ⟨(by kernel_rfl : ftK w 215 = ftT 215),
 forall_mem_cons.mpr ⟨(by kernel_rfl : ftK w 220 = ftT 220),
 forall_mem_cons.mpr ⟨(by kernel_rfl : ftK w 225 = ftT 225),
 forall_mem_cons.mpr ⟨(by kernel_rfl : ftK w 230 = ftT 230),
 forall_mem_cons.mpr ⟨(by kernel_rfl : ftK w 235 = ftT 235),
 forall_mem_cons.mpr ⟨(by kernel_rfl : ftK w 240 = ftT 240),
 forall_mem_cons.mpr ⟨(by kernel_rfl : ftK w 245 = ftT 245),
 forall_mem_cons.mpr ⟨(by kernel_rfl : ftK w 250 = ftT 250),
 forall_mem_cons.mpr ⟨(by kernel_rfl : ftK w 102 = ftT 102),
 forall_mem_cons.mpr ⟨(by kernel_rfl : ftK w 107 = ftT 107),
 forall_mem_cons.mpr ⟨(by kernel_rfl : ftK w 121 = ftT 121),
 forall_mem_cons.mpr ⟨(by kernel_rfl : ftK w 126 = ftT 126),
 forall_mem_cons.mpr ⟨(by kernel_rfl : ftK w 163 = ftT 163),
 forall_mem_cons.mpr ⟨(by kernel_rfl : ftK w 177 = ftT 177),
 forall_mem_cons.mpr ⟨(by kernel_rfl : ftK w 66 = ftT 66),
 forall_mem_cons.mpr ⟨(by kernel_rfl : ftK w 81 = ftT 81),
 forall_mem_cons.mpr ⟨(by kernel_rfl : ftK w 134 = ftT 134),
 forall_mem_cons.mpr ⟨(by kernel_rfl : ftK w 88 = ftT 88),
 forall_mem_cons.mpr ⟨(by kernel_rfl : ftK w 184 = ftT 184),
 fun zz h => nomatch h⟩⟩⟩⟩⟩⟩⟩⟩⟩⟩⟩⟩⟩⟩⟩⟩⟩⟩⟩⟩⟩⟩⟩⟩
theorem F8 : (Vh.all fun q => fK.contains q.1) = true := by rfl
theorem Yl {α β : Type} [BEq α] [LawfulBEq α] {l : List (α × β)} {a : α} {b : β} (h : l.lookup a = some b) : (a, b) ∈ l := by
 induction l with
 | nil => exact no h
 | cons q l ih =>
   obtain ⟨k, u⟩ := q
   rw [Ry] at h
   induction hb : (a == k) with
   | true => rw [hb] at h; rw [eq_of_beq hb, <- qk h]; exact .head _
   | false => rw [hb] at h; exact .tail _ (ih h)
theorem NI (w : Rk) : ftK w = ftT := by
 funext a
 by_cases ha : fK.contains a = true
 ·exact NX w a (RR.mp ha)
 ·have h2 : Vh.lookup a = none := by
   induction q : Vh.lookup a with
   | none => rfl
   | some v => exact absurd (PT.mp F8 _ (Yl q)) ha
  unfold ftK ftT
  rw [if_neg ha, h2]; rfl
noncomputable def OK : Prop := ∀ xs : List Int, xs.length <= 63 -> ∃ μ', (evN ftT 201).call 250 [.il xs] [] [] = some (.ok (.bool true), μ')
theorem lawP_of (h : OK) : Im := fun w xs hl => by rw [NI w]; exact h xs hl
inductive Orc where
 | d
 | p
 | v (m : PR PV)
 | b (m : PR Bool)
 | s (m : SR')
 | n (p : PV)
 | i (o : Option Nat)
 | l (l : List PV)
 | r (q : Src × Nat)
abbrev Os := List Orc
abbrev KOv := PR PV -> Os -> Prop
abbrev KOb := PR Bool -> Os -> Prop
abbrev KOl := PR (List PV) -> Os -> Prop
abbrev KOs := SR' -> Os -> Prop
noncomputable def aV (m : PR PV) (O : Os) (K : KOv) : Prop := match O with
 | .v x :: O => m = x /\ K x O
 | .d :: O => K m O
 | .p :: O => False /\ m = m
 | O => K m O
noncomputable def aB (m : PR Bool) (O : Os) (K : KOb) : Prop := match O with
 | .b x :: O => m = x /\ K x O
 | .d :: O => K m O
 | .p :: O => False /\ m = m
 | O => K m O
noncomputable def aS (m : SR') (O : Os) (K : KOs) : Prop := match O with
 | .s x :: O => m = x /\ K x O
 | .d :: O => K m O
 | .p :: O => False /\ m = m
 | O => K m O
noncomputable def aI (m : Option Nat) (O : Os) (K : Option Nat -> Os -> Prop) : Prop := match O with
 | .i x :: O => m = x /\ K x O
 | .d :: O => K m O
 | .p :: O => False /\ m = m
 | O => K m O
noncomputable def aL (m : Option (List PV)) (O : Os) (K : Option (List PV) -> Os -> Prop) : Prop := match O with
 | .l x :: O => m = some x /\ K (some x) O
 | .d :: O => K m O
 | .p :: O => False /\ m = m
 | O => K m O
noncomputable def aR (m : Option (Src × Nat)) (O : Os) (K : Option (Src × Nat) -> Os -> Prop) : Prop := match O with
 | .r x :: O => m = some x /\ K (some x) O
 | .d :: O => K m O
 | .p :: O => False /\ m = m
 | O => K m O
noncomputable def bW {α β : Type} (m : PR α) (O : Os) (K : PR β -> Os -> Prop) (f : α -> q4 -> Os -> Prop) : Prop := match m with
 | none => K none O
 | some (.error x, μ) => K (some (.error x, μ)) O
 | some (.ok a, μ) => f a μ O
noncomputable def bS {α : Type} (σ : LE) (m : PR α) (O : Os) (K : KOs) (f : α -> q4 -> Os -> Prop) : Prop := match m with
 | none => K none O
 | some (.error x, μ) => K (some (.error x, σ, μ)) O
 | some (.ok a, μ) => f a μ O
noncomputable def oW {α β : Type} (o : Option α) (O : Os) (K : Option β -> Os -> Prop) (f : α -> Prop) : Prop := match o with
 | none => K none O
 | some a => f a
structure WEv where
 ev : Os -> LE -> Expr -> q4 -> KOv -> Prop
 ex : Os -> LE -> List Sf -> q4 -> KOs -> Prop
section
variable (ft : FT) (r : Ev) (W : WEv)
noncomputable def wL (σ : LE) : List Expr -> Os -> q4 -> KOl -> Prop
 | [], O, μ, K => K (some (.ok [], μ)) O
 | e :: es, O, μ, K => W.ev O σ e μ fun m O => bW m O K fun v μ O => wL σ es O μ fun m O => bW m O K fun vs μ O => K (some (.ok (v :: vs), μ)) O
noncomputable def Fd (O : Os) (σ : LE) (x : Str) (μ : q4) (K : KOv) : Prop := match O with
 | .n p :: O => if !(x == ("__debug__" : Str)) && xy (σ.sc.lookup x) then (σ.vs.lookup x = some p /\ K (some (.ok p, μ)) O) else False
 | .d :: O => K (fc σ x μ) O
 | .p :: O => False /\ σ.vs.lookup x = σ.vs.lookup x
 | O => K (fc σ x μ) O
noncomputable def LT (O : Os) (σ : LE) (x : Str) (K : Option PV -> Os -> Prop) : Prop := match O with
 | .n p :: O => if xy (σ.sc.lookup x) then (σ.vs.lookup x = some p /\ K (some p) O) else False
 | .d :: O => K (σ.get x) O
 | .p :: O => False /\ σ.vs.lookup x = σ.vs.lookup x
 | O => K (σ.get x) O
noncomputable def EH (O : Os) (σ : LE) (l : Expr) (ops : List Uv) (xs : List Expr) (μ : q4) (K : KOb) : Prop := match ops, xs with
 | [op], [x] => if yt x then False else W.ev O σ l μ fun m O => bW m O K fun a μ O => W.ev O σ x μ fun m O => bW m O K fun b μ O => aV (qY op a b μ) O fun m O => bW m O K fun c μ O => aB (tru c μ) O K
 | _, _ => False
noncomputable def Yc (O : Os) (σ : LE) (f : Expr) (args : List Expr) (kws : List SE) (pos : Pos) (μ : q4) (K : KOb) : Prop := match vQ f, args with
 | some a, [e] => if a.2.1 == ("search" : Str) && kws.isEmpty && qT a.1 && a.2.2.endLine == pos.line && !qf e then
    W.ev O σ a.1 μ fun m O => bW m O K fun p μ O => if Gi p then W.ev O σ e μ fun m O => bW m O K fun v μ O => aB (vm p v μ) O K else False
   else False
 | _, _ => False
mutual
noncomputable def kz (σ : LE) : Expr -> Os -> q4 -> KOb -> Prop
 | .UnaryOp op x _ => fun O μ K => match op with
   | .Not => kz σ x O μ fun m O => bW m O K fun b μ O => K (some (.ok (!b), μ)) O
   | _ => False
 | .BoolOp op es _ => fun O μ K => wTests σ (Xd op) es O μ K
 | .Compare l ops xs _ => fun O μ K => EH W O σ l ops xs μ K
 | .Call f args kws pos => fun O μ K => Yc W O σ f args kws pos μ K
 | .Name x p => fun O μ K => W.ev O σ (.Name x p) μ fun m O => bW m O K fun c μ O => aB (tru c μ) O K
 | .Constant x k p => fun O μ K => W.ev O σ (.Constant x k p) μ fun m O => bW m O K fun c μ O => aB (tru c μ) O K
 | _ => fun zz zz zz => False
noncomputable def wTests (σ : LE) (t : Bool) : List Expr -> Os -> q4 -> KOb -> Prop
 | [] => fun O μ K => K (some (.ok t, μ)) O
 | e :: es => fun O μ K => kz σ e O μ fun m O => bW m O K fun b μ O => if b == t then wTests σ t es O μ K else K (some (.ok b, μ)) O
end
noncomputable def O4 (O : Os) (σ : LE) (f : PE) (a : PV) (args : List Expr) (kws : List SE) (μ : q4) (K : KOv) : Prop := match kws with
 | [] => wL W σ args O μ fun m O => bW m O K fun vs μ O => aV (r.call f (a :: vs) [] μ) O K
 | k :: ks => if !ks.isEmpty then False else wL W σ args O μ fun m O => bW m O K fun vs μ O => match k.arg with
   | some x => W.ev O σ k.value μ fun m O => bW m O K fun v μ O => aV (r.call f (a :: vs) [(x, v)] μ) O K
   | none => W.ev O σ k.value (μ ++ [.dict []]) fun m O => bW m O K fun dv μ₂ O => aV (gu r f (a :: vs) μ.length dv μ₂) O K
noncomputable def BB (O : Os) (σ : LE) (a : PV) (name : Str) (args : List Expr) (μ : q4) (K : KOv) : Prop := match qx a with
 | some x => (match jp args with
   | some cs => if cs.isEmpty then aV (j0 a name [] μ) O K else aV (jW x name cs μ) O K
   | none => wL W σ args O μ fun m O => bW m O K fun vs μ O => aV (j0 a name vs μ) O K)
 | none => aL (j3 μ a) O fun o O => oW o O K fun zz => wL W σ args O μ fun m O => bW m O K fun vs μ O => aV (j0 a name vs μ) O K
noncomputable def G3 (O : Os) (σ : LE) (o : Expr) (name : Str) (apos pos : Pos) (args : List Expr) (kws : List SE) (μ : q4) (K : KOv) : Prop :=
 if qT o && apos.endLine == pos.line && args.all (!qf ·) && decide (args.length < 10) then W.ev O σ o μ fun m O => bW m O K fun a μ O => aI (qw μ a) O fun i O => match i with
  | some d => qn μ d name = true /\ oW (vA.lookup name) O K fun f => O4 r W O σ f a args kws μ K
  | none => if kws.isEmpty && (Jd a name).isSome then BB W O σ a name args μ K else False
 else False
noncomputable def wB1 (O : Os) (f : Str) (v : PV) (μ : q4) (K : KOv) : Prop :=
 if f == ("len" : Str) then aV (GH v μ) O K else if f == ("type" : Str) then aV (ZF v μ) O K else if f == ("ord" : Str) then aV (HN v μ) O K else if f == ("chr" : Str) then aV (L1 v μ) O K
 else if f == ("str" : Str) then aI (qw μ v) O fun i O => oW i O K fun zz => aV (r.call 163 [v] [] μ) O fun m O => bW m O K fun v μ O => if zB v then K (some (.ok v, μ)) O else False else False
noncomputable def Y3 (O : Os) (σ : LE) (args : List Expr) (μ : q4) (K : KOv) : Prop := match one args with
 | some e => (match xB e with
   | some q => if q.2.1 == ("items" : Str) && qT q.1 && q.2.2.1.endLine == q.2.2.2.line then W.ev O σ q.1 μ fun m O => bW m O K fun v μ O => aV (JF v μ) O K else False
   | none => False)
 | none => False
noncomputable def F1 (O : Os) (σ : LE) (f : Str) (args : List Expr) (μ : q4) (K : KOv) : Prop := if σ.isG f && args.all (!qf ·) && decide (args.length < 10) then match fns.lookup f with
 | some a => wL W σ args O μ fun m O => bW m O K fun vs μ O => aV (r.call a vs [] μ) O K
 | none => if f == ("Headers" : Str) then wL W σ args O μ fun m O => bW m O K fun vs μ O => aV (J7 r vs μ) O K else if f == ("list" : Str) then Y3 W O σ args μ K
   else if (pB1 r f).isSome then wL W σ args O μ fun m O => bW m O K fun vs μ O => oW (one vs) O K fun v => wB1 r O f v μ K else False
 else False
noncomputable def LW (O : Os) (σ : LE) (o : Option Expr) (μ : q4) (K : PR (Option PV) -> Os -> Prop) : Prop := match o with
 | none => K (some (.ok none, μ)) O
 | some e => W.ev O σ e μ fun m O => bW m O K fun v μ O => K (some (.ok (some v), μ)) O
noncomputable def YD (σ : LE) : List (Option Expr) -> List Expr -> Os -> q4 -> (PR (Loc) -> Os -> Prop) -> Prop
 | [], vs, O, μ, K => if vs.isEmpty then K (some (.ok [], μ)) O else False
 | k :: ks, vs, O, μ, K => match k, vs with
   | some k, v :: vs => W.ev O σ k μ fun m O => bW m O K fun a μ O => W.ev O σ v μ fun m O => bW m O K fun b μ O => YD σ ks vs O μ fun m O => bW m O K fun l μ O => oW (qx a) O K fun x => K (some (.ok ((x, b) :: l), μ)) O
   | _, _ => False
noncomputable def HQ (O : Os) (σ : LE) (l : Expr) (ops : List Uv) (xs : List Expr) (μ : q4) (K : KOv) : Prop := match ops, xs with
 | [op], [x] => if yt x then False else W.ev O σ l μ fun m O => bW m O K fun a μ O => W.ev O σ x μ fun m O => bW m O K fun b μ O =>
   if Dj op && zB a then aI (qw μ b) O fun i O => match i with
    | some _ => aV (r.call 121 [b, a] [] μ) O fun m O => bW m O K fun c μ O => aB (tru c μ) O fun m O => bW m O K fun t μ O => K (some (.ok (.bool t), μ)) O
    | none => aV (qY op a b μ) O K
   else aV (qY op a b μ) O K
 | _, _ => False
noncomputable def XA (σ : LE) : List Expr -> Str -> Os -> q4 -> KOv -> Prop
 | [], out, O, μ, K => aV (yx out μ) O K
 | e :: es, out, O, μ, K => match QX e with
   | some x => (out.length + x.length <= Pr) /\ XA σ es (out ++ x) O μ K
   | none => oW (Gg e) O K fun e => W.ev O σ e μ fun m O => bW m O K fun v μ O => oW (qx v) O K fun x => (out.length + x.length <= Pr) /\ XA σ es (out ++ x) O μ K
noncomputable def Mz (O : Os) (σ : LE) (v : Expr) (lo hi st : Option Expr) (μ : q4) (K : KOv) : Prop := if st.isNone then W.ev O σ v μ fun m O => bW m O K fun a μ O => LW W O σ lo μ fun m O => bW m O K fun l μ O => LW W O σ hi μ fun m O => bW m O K fun h μ O => aV (wM a l h μ) O K else False
noncomputable def wIt (O : Os) (σ : LE) (v i : Expr) (μ : q4) (K : KOv) : Prop := W.ev O σ v μ fun m O => bW m O K fun a μ O => W.ev O σ i μ fun m O => bW m O K fun b μ O => aV (za a b μ) O K
noncomputable def Hp (O : Os) (σ : LE) (v i : Expr) (μ : q4) (K : KOv) : Prop := match i with
 | .Slice lo hi st _ => Mz W O σ v lo hi st μ K
 | i => wIt W O σ v i μ K
noncomputable def wJn (O : Os) (σ : LE) (es : List Expr) (μ : q4) (K : KOv) : Prop := if 2 <= es.length then XA W σ es PF O μ K else False
noncomputable def Hi (O : Os) (σ : LE) (ks : List (Option Expr)) (vs : List Expr) (μ : q4) (K : KOv) : Prop := if ks.length < 10 /\ ks.length = vs.length /\ ks.all (·.isSome) = true then YD W σ ks vs O (μ ++ [.dict []]) fun m O => bW m O K fun l μ₁ O =>
 aV (if (l.map (·.1)).Nodup /\ (qe μ₁ μ.length).any (·.isEmpty) = true then some (.ok (.loc μ.length), qj μ₁ μ.length (.dict l)) else none) O K else False
noncomputable def EU (O : Os) (σ : LE) (op : UY) (es : List Expr) (μ : q4) (K : KOv) : Prop := if Xd op then False else match two es with
 | some q => W.ev O σ q.1 μ fun m O => bW m O K fun a μ O => aB (tru a μ) O fun m O => bW m O K fun t μ O => if t then K (some (.ok a, μ)) O else W.ev O σ q.2 μ K
 | none => False
noncomputable def Fo (a : PV) (name : Str) (μ : q4) : PR PV := (qw μ a).bind fun d => (qe μ d).bind fun l => (x9 l name).bind fun v => if WG v then none else some (.ok v, μ)
noncomputable def M8 (O : Os) (σ : LE) (o : Expr) (name : Str) (μ : q4) (K : KOv) : Prop := if qT o && name == ("_headers" : Str) then W.ev O σ o μ fun m O => bW m O K fun a μ O => aV (Fo a name μ) O K else False
noncomputable def O9 (O : Os) (σ : LE) (ifs : List Expr) (μ : q4) (K : KOb) : Prop := match ifs with
 | [] => K (some (.ok true, μ)) O
 | c :: cs => if cs.isEmpty then kz W σ c O μ K else False
noncomputable def II (O : Os) (σ : LE) (target iter : Expr) (μ : q4) (K : PR (Src × Nat) -> Os -> Prop) : Prop := match (yf iter).filter (fun q => q.1 == ("enumerate" : Str)) with
 | some q => if σ.isG q.1 && !qf q.2 && zu target then W.ev O σ q.2 μ fun m O => bW m O K fun v μ O => oW (jq v) O K fun n => aL (q5 μ n) O fun o O => oW o O K fun l => K (some (.ok (.enum n, l.length + 1), μ)) O else False
 | none => W.ev O σ iter μ fun m O => bW m O K fun v μ O => aR (zY v μ) O fun o O => oW o O K fun q => K (some (.ok q, μ)) O
noncomputable def wLC (O : Os) (σ : LE) (elt : Expr) (gens : List TR) (sc : Un) (μ : q4) (K : KOv) : Prop := oW (one gens) O K fun g => if g.is_async = 0 then (if yt g.iter || !vO σ sc || !BS g.target sc then False else II W O σ g.target g.iter μ fun m O => bW m O K fun q μ O => aV (qF r (σ.comp sc.names) elt g.target g.ifs q μ) O K) else False
noncomputable def H8 (O : Os) (σ : LE) (e : Expr) (μ : q4) (K : KOv) : Prop := match e with
 | .Constant c _ _ => K ((wX c).map fun p => (.ok p, μ)) O
 | .Name x _ => Fd O σ x μ K
 | .Tuple es _ _ => if es.any qf then False else wL W σ es O μ fun m O => bW m O K fun vs μ O => if vs.length <= Pr then K (some (.ok (.tup vs), μ)) O else False
 | .List es _ => if es.any qf then False else wL W σ es O μ fun m O => bW m O K fun vs μ O => aV (jr vs μ) O K
 | .Dict ks vs _ => Hi W O σ ks vs μ K
 | .BinOp l op x _ => W.ev O σ l μ fun m O => bW m O K fun a μ O => W.ev O σ x μ fun m O => bW m O K fun b μ O => aV (kK op a b μ) O K
 | .UnaryOp op x _ => K (eUn op x μ) O
 | .BoolOp op es _ => EU W O σ op es μ K
 | .Compare l ops xs _ => HQ r W O σ l ops xs μ K
 | .IfExp t b o _ => kz W σ t O μ fun m O => bW m O K fun c μ O => if c then W.ev O σ b μ K else W.ev O σ o μ K
 | .Subscript v i _ => Hp W O σ v i μ K
 | .Attribute o name p => M8 W O σ o name μ K
 | .JoinedStr es _ => wJn W O σ es μ K
 | .Call f args kws pos => (match f with
   | .Attribute o name apos => G3 r W O σ o name apos pos args kws μ K
   | .Name f _ => if kws.isEmpty then F1 r W O σ f args μ K else False
   | _ => False)
 | .ListComp elt gens sc _ => wLC r W O σ elt gens sc μ K
 | _ => False
noncomputable def B6 (O : Os) (σ : LE) (x : Str) (v : PV) (μ : q4) (K : KOs) : Prop := oW (σ.put x v) O K fun σ' => K (some (.ok .next, σ', μ)) O
noncomputable def Ik (σ : LE) (ts : List Expr) (l : List PV) (μ : q4) : SR' := if l.length = 1 /\ ts.length = 2 then some (.error wK, σ, μ) else if l.length = ts.length then (vJ σ ts l).map fun σ' => (.ok .next, σ', μ) else none
noncomputable def Mb (O : Os) (σ : LE) (ts : List Expr) (e : Expr) (μ : q4) (K : KOs) : Prop := if ts.any qf then False else W.ev O σ e μ fun m O => bS σ m O K fun v μ O => match wB v with
 | some _ => K (xv σ ts v μ) O
 | none => aL (j3 μ v) O fun o O => oW o O K fun l => K (Ik σ ts l μ) O
noncomputable def EM (O : Os) (σ : LE) (ts es : List Expr) (μ : q4) (K : KOs) : Prop := oW (two ts) O K fun t => oW (two es) O K fun q => oW (wh t.1) O K fun x => oW (wh t.2) O K fun y =>
 if σ.sc.lookup x.1 == some .local && σ.sc.lookup y.1 == some .local && x.2.line == y.2.line && !(x.1 == y.1) && !(es.all (aD 8)) && !(es.all (AI 8)) && !qf q.1 && !qf q.2 then
  W.ev O σ q.1 μ fun m O => bS σ m O K fun v μ O => W.ev O σ q.2 μ fun m O => bS σ m O K fun u μ O => oW (σ.put y.1 u) O K fun σ' => B6 O σ' x.1 v μ K
 else False
noncomputable def MX (O : Os) (σ : LE) (ts : List Expr) (e : Expr) (μ : q4) (K : KOs) : Prop := match e with
 | .Tuple es _ _ => EM W O σ ts es μ K
 | e => Mb W O σ ts e μ K
noncomputable def Xy (a : PV) (x : Str) (v : PV) (μ : q4) : PR PV := (jq a).bind fun n => (qe μ n).bind fun l => if l.length + 1 <= Pr then some (.ok .none, qj μ n (.dict (qR l x v))) else none
noncomputable def H7 (O : Os) (σ : LE) (a k v : PV) (μ : q4) (K : KOs) : Prop := oW (qx k) O K fun x => aI (qw μ a) O fun i O => match i with
 | some _ => aV (r.call 102 [a, k, v] [] μ) O fun m O => bS σ m O K fun zz μ O => K (some (.ok .next, σ, μ)) O
 | none => aV (Xy a x v μ) O fun m O => bS σ m O K fun zz μ O => K (some (.ok .next, σ, μ)) O
noncomputable def EP (O : Os) (σ : LE) (o i e : Expr) (μ : q4) (K : KOs) : Prop := W.ev O σ e μ fun m O => bS σ m O K fun v μ O => W.ev O σ o μ fun m O => bS σ m O K fun a μ O => W.ev O σ i μ fun m O => bS σ m O K fun k μ O => H7 r O σ a k v μ K
noncomputable def WK (a v : PV) (μ : q4) : PR PV := (jq a).bind fun n => (jq v).bind fun m => (q5 μ n).bind fun l₀ => (q5 μ m).bind fun l => if n = m \/ Pr < l₀.length + l.length then none else some (.ok .none, qj μ n (.list l))
noncomputable def H5 (O : Os) (σ : LE) (o e : Expr) (μ : q4) (K : KOs) : Prop := W.ev O σ e μ fun m O => bS σ m O K fun v μ O => W.ev O σ o μ fun m O => bS σ m O K fun a μ O => aV (WK a v μ) O fun m O => bS σ m O K fun zz μ O => K (some (.ok .next, σ, μ)) O
noncomputable def ZC (p : PV) (name : Str) (v : PV) (μ : q4) : PR PV := (qw μ p).bind fun d => (qe μ d).bind fun l => if l.isEmpty then some (.ok .none, qj μ d (.dict [(name, v)])) else none
noncomputable def Hf (O : Os) (σ : LE) (y name : Str) (e : Expr) (μ : q4) (K : KOs) : Prop := if name == ("_headers" : Str) && !(y == ("__debug__" : Str)) then W.ev O σ e μ fun m O => bS σ m O K fun v μ O => oW (σ.get y) O K fun p => aV (ZC p name v μ) O fun m O => bS σ m O K fun zz μ O => K (some (.ok .next, σ, μ)) O else False
noncomputable def O1 (O : Os) (σ : LE) (o i : Expr) (μ : q4) (K : KOs) : Prop := W.ev O σ o μ fun m O => bS σ m O K fun a μ O => W.ev O σ i μ fun m O => bS σ m O K fun k μ O => aI (qw μ a) O fun i O => oW i O K fun zz => if zB k then aV (r.call 107 [a, k] [] μ) O fun m O => bS σ m O K fun zz μ O => K (some (.ok .next, σ, μ)) O else False
noncomputable def WN : Expr -> Option (Expr × Expr)
 | .Subscript o i _ => some (o, i)
 | _ => none
noncomputable def NQ (σ : LE) (o i e : Expr) (μ : q4) : SR' := match i with
 | .Slice lo hi st _ => if lo.isNone && hi.isNone && st.isNone then Ji r σ o e μ else none
 | i => FS r σ o i e μ
noncomputable def Hk (O : Os) (σ : LE) (o i e : Expr) (μ : q4) (K : KOs) : Prop := match i with
 | .Slice lo hi st _ => if lo.isNone && hi.isNone && st.isNone then H5 W O σ o e μ K else False
 | i => EP r W O σ o i e μ K
noncomputable def H9 (O : Os) (σ : LE) (t e : Expr) (μ : q4) (K : KOs) : Prop := match t with
 | .Name x _ => if g0 e then False else W.ev O σ e μ fun m O => bS σ m O K fun v μ O => B6 O σ x v μ K
 | .Tuple ts _ _ => MX W O σ ts e μ K
 | .Attribute o name _ => oW (qW o) O K fun y => Hf W O σ y name e μ K
 | .Subscript o i _ => Hk r W O σ o i e μ K
 | _ => False
noncomputable def Mr (O : Os) (σ : LE) (ts : List Expr) (e : Expr) (μ : q4) (K : KOs) : Prop := match ts with
 | [] => False
 | t :: ts => (match ts with
   | [] => H9 r W O σ t e μ K
   | u :: us => if us.isEmpty then oW (qW t) O K fun x => oW (qW u) O K fun y => W.ev O σ e μ fun m O => bS σ m O K fun v μ O => oW (σ.put x v) O K fun σ => B6 O σ y v μ K else False)
noncomputable def IB (O : Os) (σ : LE) (target iter : Expr) (body : List Sf) (μ : q4) (K : KOs) : Prop := match xB iter with
 | some q => if q.2.1 == ("items" : Str) && qT q.1 && q.2.2.1.endLine == q.2.2.2.line && zu target then W.ev O σ q.1 μ fun m O => bS σ m O K fun v μ O => aS (y8 r σ target body v μ) O K else False
 | none => if yt iter || !jC target then False else W.ev O σ iter μ fun m O => bS σ m O K fun v μ O => aR (zY v μ) O fun o O => oW o O K fun q => aS (zQ r q.1 target body q.2 0 σ μ) O K
noncomputable def Fp (O : Os) (σ : LE) (st : Sf) (μ : q4) (K : KOs) : Prop := match st with
 | .Expr e _ => if JE e then False else W.ev O σ e μ fun m O => bS σ m O K fun v μ O => if vj v then K (some (.ok .next, σ, μ)) O else False
 | .Return e _ => oW e O K fun e => W.ev O σ e μ fun m O => bS σ m O K fun v μ O => K (some (.ok (.ret v), σ, μ)) O
 | .Continue _ => K (some (.ok .cont, σ, μ)) O
 | .Assign ts e _ => Mr r W O σ ts e μ K
 | .Delete ts _ => (match (one ts).bind WN with
   | some q => O1 r W O σ q.1 q.2 μ K
   | none => False)
 | .AugAssign t op e _ => oW (qW t) O K fun x => LT O σ x fun o O => oW o O K fun old => W.ev O σ e μ fun m O => bS σ m O K fun v μ O => if EE op then (match qx old, qx v with
   | some a, some b => aV (yx (a ++ b) μ) O fun m O => bS σ m O K fun u μ O => B6 O σ x u μ K
   | _, _ => False) else False
 | .If t b o _ => kz W σ t O μ fun m O => bS σ m O K fun c μ O => if c then W.ex O σ b μ K else W.ex O σ o μ K
 | .For target iter body o _ => if o.isEmpty then IB r W O σ target iter body μ K else False
 | .Raise e c _ => K (Y8 σ e c μ) O
 | .Try body hs o f _ => if !hs.isEmpty && o.isEmpty && f.isEmpty then W.ex O σ body μ fun m O => match m with
   | some (.error x, σ₁, μ₁) => if x.here then False else aS (yT σ₁ x hs μ₁) O K
   | o => K o O else False
 | _ => False
noncomputable def YC (σ : LE) : List Sf -> Os -> q4 -> KOs -> Prop
 | [], O, μ, K => K (some (.ok .next, σ, μ)) O
 | st :: rest, O, μ, K => Fp r W O σ st μ fun m O => match m with
   | some (.ok .next, σ₁, μ₁) => YC σ₁ rest O μ₁ K
   | o => K o O
end
noncomputable def wN (ft : FT) (n : Nat) : Nat -> WEv
 | 0 => { ev := fun O σ e μ K => K ((evN ft n).ev σ e μ) O, ex := fun O σ b μ K => K ((evN ft n).ex σ b μ) O }
 | k + 1 => { ev := fun O σ e μ K => H8 (evN ft (n + k)) (wN ft n k) O σ e μ K, ex := fun O σ b μ K => YC (evN ft (n + k)) (wN ft n k) σ b O μ K }
theorem zC {m : PR PV} {O : Os} {K : KOv} (h : aV m O K) : ∃ O, K m O := by
 induction O using PD with
 | nil => exact ⟨_, h⟩
 | cons o O => induction o <;> first | exact ⟨_, h⟩ | exact h.1.elim | exact ⟨O, h.1.symm ▸ h.2⟩
theorem FR {m : PR Bool} {O : Os} {K : KOb} (h : aB m O K) : ∃ O, K m O := by
 induction O using PD with
 | nil => exact ⟨_, h⟩
 | cons o O => induction o <;> first | exact ⟨_, h⟩ | exact h.1.elim | exact ⟨O, h.1.symm ▸ h.2⟩
theorem IG {m : SR'} {O : Os} {K : KOs} (h : aS m O K) : ∃ O, K m O := by
 induction O using PD with
 | nil => exact ⟨_, h⟩
 | cons o O => induction o <;> first | exact ⟨_, h⟩ | exact h.1.elim | exact ⟨O, h.1.symm ▸ h.2⟩
theorem Bv {m : Option Nat} {O : Os} {K : Option Nat -> Os -> Prop} (h : aI m O K) : ∃ O, K m O := by
 induction O using PD with
 | nil => exact ⟨_, h⟩
 | cons o O => induction o <;> first | exact ⟨_, h⟩ | exact h.1.elim | exact ⟨O, h.1.symm ▸ h.2⟩
theorem LQ {m : Option (List PV)} {O : Os} {K : Option (List PV) -> Os -> Prop} (h : aL m O K) : ∃ O, K m O := by
 induction O using PD with
 | nil => exact ⟨_, h⟩
 | cons o O => induction o <;> first | exact ⟨_, h⟩ | exact h.1.elim | exact ⟨O, h.1.symm ▸ h.2⟩
theorem O3 {m : Option (Src × Nat)} {O : Os} {K : Option (Src × Nat) -> Os -> Prop} (h : aR m O K) : ∃ O, K m O := by
 induction O using PD with
 | nil => exact ⟨_, h⟩
 | cons o O => induction o <;> first | exact ⟨_, h⟩ | exact h.1.elim | exact ⟨O, h.1.symm ▸ h.2⟩
theorem vR {α β : Type} {m : PR α} {O : Os} {K : PR β -> Os -> Prop} {f : α -> q4 -> Os -> Prop} {g : α -> PM β} (h : bW m O K f) (k : ∀ a μ O, f a μ O -> ∃ O, K (g a μ) O) : ∃ O, K (qa m g) O := by
 induction m with
 | none => exact ⟨O, h⟩
 | some q => obtain ⟨q, μ⟩ := q; induction q with
   | error x => exact ⟨O, h⟩
   | ok a => exact k a μ O h
theorem CE {α : Type} {σ : LE} {m : PR α} {O : Os} {K : KOs} {f : α -> q4 -> Os -> Prop} {g : α -> q4 -> SR'} (h : bS σ m O K f) (k : ∀ a μ O, f a μ O -> ∃ O, K (g a μ) O) : ∃ O, K (qC σ m g) O := by
 induction m with
 | none => exact ⟨O, h⟩
 | some q => obtain ⟨q, μ⟩ := q; induction q with
   | error x => exact ⟨O, h⟩
   | ok a => exact k a μ O h
theorem zL {α β : Type} {o : Option α} {O : Os} {K : Option β -> Os -> Prop} {f : α -> Prop} {g : α -> Option β} (h : oW o O K f) (k : ∀ a, f a -> ∃ O, K (g a) O) : ∃ O, K (o.bind g) O := by
 induction o with
 | none => exact ⟨O, h⟩
 | some a => exact k a h
theorem fW {c : Bool} {p : Prop} {β : Type} {K : β -> Os -> Prop} {x y : β} (h : if c = true then p else False) (k : p -> ∃ O, K x O) : ∃ O, K (if c = true then x else y) O := by
 cases c
 ·exact h.elim
 ·exact k h
theorem fP {c : Prop} [Decidable c] {p : Prop} {β : Type} {K : β -> Os -> Prop} {x y : β} (h : if c then p else False) (k : p -> ∃ O, K x O) : ∃ O, K (if c then x else y) O := by
 by_cases hc : c
 ·rw [if_pos hc] at h ⊢; exact k h
 ·rw [if_neg hc] at h; exact h.elim
theorem fN {c : Bool} {p : Prop} {β : Type} {K : β -> Os -> Prop} {x y : β} (h : if c = true then False else p) (k : p -> ∃ O, K x O) : ∃ O, K (if c = true then y else x) O := by
 cases c
 ·exact k h
 ·exact h.elim
theorem fC {c : Bool} {p q : Prop} {β : Type} {K : β -> Os -> Prop} {x y : β} (h : if c = true then p else q) (k : p -> ∃ O, K x O) (k' : q -> ∃ O, K y O) : ∃ O, K (if c = true then x else y) O := by
 cases c
 ·exact k' h
 ·exact k h
theorem fCm {c : Bool} {p q : Prop} {β : Type} {K : β -> Os -> Prop} {x y : q4 -> β} {μ : q4} (h : if c = true then p else q) (k : p -> ∃ O, K (x μ) O) (k' : q -> ∃ O, K (y μ) O) : ∃ O, K ((if c = true then x else y) μ) O := by
 cases c
 ·exact k' h
 ·exact k h
theorem fWm {c : Bool} {p : Prop} {β : Type} {K : β -> Os -> Prop} {x y : q4 -> β} {μ : q4} (h : if c = true then p else False) (k : p -> ∃ O, K (x μ) O) : ∃ O, K ((if c = true then x else y) μ) O := fCm h k False.elim
structure WS (r : Ev) (W : WEv) : Prop where
 ev : ∀ {O σ e μ K}, W.ev O σ e μ K -> ∃ O, K (r.ev σ e μ) O
 ex : ∀ {O σ b μ K}, W.ex O σ b μ K -> ∃ O, K (r.ex σ b μ) O
theorem WS.evb {r : Ev} {W : WEv} (S : WS r W) {O σ e μ} {α : Type} {K : PR α -> Os -> Prop} {f : PV -> q4 -> Os -> Prop} {g : PV -> PM α} (h : W.ev O σ e μ fun m O => bW m O K f) (k : ∀ a μ O, f a μ O -> ∃ O, K (g a μ) O) : ∃ O, K (qa (r.ev σ e μ) g) O := (S.ev h).elim fun zz h => vR h k
theorem WS.evs {r : Ev} {W : WEv} (S : WS r W) {O σ σ' e μ} {K : KOs} {f : PV -> q4 -> Os -> Prop} {g : PV -> q4 -> SR'} (h : W.ev O σ e μ fun m O => bS σ' m O K f) (k : ∀ a μ O, f a μ O -> ∃ O, K (g a μ) O) : ∃ O, K (qC σ' (r.ev σ e μ) g) O := (S.ev h).elim fun zz h => CE h k
section
variable {ft : FT} {r : Ev} {W : WEv} (S : WS r W)
include S
theorem OF {σ : LE} {es : List Expr} : ∀ {O μ K}, wL W σ es O μ K -> ∃ O, K (evL r σ es μ) O := by
 induction es with
 | nil => exact fun h => ⟨_, h⟩
 | cons e es ih => exact fun h => S.evb h fun v μ O h => (ih h).elim fun zz h => vR h fun vs μ O h => ⟨O, h⟩
omit S in
theorem aVb {m : PR PV} {O : Os} {α : Type} {K : PR α -> Os -> Prop} {f : PV -> q4 -> Os -> Prop} {g : PV -> PM α} (h : aV m O fun m O => bW m O K f) (k : ∀ a μ O, f a μ O -> ∃ O, K (g a μ) O) : ∃ O, K (qa m g) O := (zC h).elim fun zz h => vR h k
omit S in
theorem aBb {m : PR Bool} {O : Os} {α : Type} {K : PR α -> Os -> Prop} {f : Bool -> q4 -> Os -> Prop} {g : Bool -> PM α} (h : aB m O fun m O => bW m O K f) (k : ∀ a μ O, f a μ O -> ∃ O, K (g a μ) O) : ∃ O, K (qa m g) O := (FR h).elim fun zz h => vR h k
theorem wLb {σ : LE} {es : List Expr} {O μ} {α : Type} {K : PR α -> Os -> Prop} {f : List PV -> q4 -> Os -> Prop} {g : List PV -> PM α} (h : wL W σ es O μ fun m O => bW m O K f) (k : ∀ a μ O, f a μ O -> ∃ O, K (g a μ) O) : ∃ O, K (qa (evL r σ es μ) g) O := (OF S h).elim fun zz h => vR h k
omit S in
set_option tactic.hygienic true in
theorem Dd {O : Os} {σ : LE} {x : Str} {μ : q4} {K : KOv} (h : Fd O σ x μ K) : ∃ O, K (fc σ x μ) O := by
 induction O using PD with
 | nil => exact ⟨_, h⟩
 | cons o O => induction o <;> first | exact ⟨_, h⟩ | exact h.1.elim | skip
               rename_i p
               unfold Fd at h
               cases hd : (x == ("__debug__" : Str)) <;> cases hs : xy (σ.sc.lookup x) <;> rw [hd, hs] at h <;> first | exact h.elim | skip
               refine ⟨O, ?_⟩
               unfold fc LE.get
               rw [hd, hs]
               show K (match σ.vs.lookup x with | some p => pret p μ | none => _) O
               rw [h.1]; exact h.2
omit S in
set_option tactic.hygienic true in
theorem LP {O : Os} {σ : LE} {x : Str} {K : Option PV -> Os -> Prop} (h : LT O σ x K) : ∃ O, K (σ.get x) O := by
 induction O using PD with
 | nil => exact ⟨_, h⟩
 | cons o O => induction o <;> first | exact ⟨_, h⟩ | exact h.1.elim | skip
               rename_i p
               unfold LT at h
               cases hs : xy (σ.sc.lookup x) <;> rw [hs] at h
               ·exact h.elim
               ·refine ⟨O, ?_⟩
                unfold LE.get
                rw [hs]
                show K (σ.vs.lookup x) O
                rw [h.1]; exact h.2
theorem DW {O : Os} {σ : LE} {l : Expr} {ops : List Uv} {xs : List Expr} {μ : q4} {K : KOb} (h : EH W O σ l ops xs μ K) : ∃ O, K (IX r σ l ops xs μ) O := by
 induction ops using PD with
 | nil => exact h.elim
 | cons op t => induction t using PD with
   | cons => exact h.elim
   | nil => induction xs using PD with
     | nil => exact h.elim
     | cons x t => induction t using PD with
       | cons => exact h.elim
       | nil => exact fN h fun h => S.evb h fun a μ O h => S.evb h fun b μ O h => aVb h fun c μ O h => FR h
theorem Gn {O : Os} {σ : LE} {f : Expr} {args : List Expr} {kws : List SE} {pos : Pos} {μ : q4} {K : KOb} (h : Yc W O σ f args kws pos μ K) : ∃ O, K (Wm r σ f args kws pos μ) O := by
 unfold Yc at h
 unfold Wm
 induction ha : vQ f with
 | none => rw [ha] at h; exact h.elim
 | some a =>
   rw [ha] at h
   induction args using PD with
   | nil => exact h.elim
   | cons e t => induction t using PD with
     | cons => exact h.elim
     | nil => exact fW h fun h => S.evb h fun p μ O h => fW h fun h => S.evb h fun v μ O h => FR h
omit S in
theorem K1 {σ : LE} {t : Bool} {k : Nat} (ih : ∀ e, c9 e < k -> ∀ {O μ K}, kz W σ e O μ K -> ∃ O, K (xj r σ e μ) O) (es : List Expr) : c9 es < k -> ∀ {O μ K}, wTests W σ t es O μ K -> ∃ O, K (evTests r σ t es μ) O := by
 induction es with
 | nil => exact fun zz zz zz zz h => ⟨_, h⟩
 | cons e es ihs =>
   intro hk O μ K h
   rw [AD] at hk
   exact (ih e (by lia) h).elim fun zz h => vR h fun b μ O h => fCm h (ihs (by lia)) fun h => ⟨O, h⟩
theorem FU {σ : LE} (k : Nat) : ∀ (e : Expr), c9 e < k -> ∀ {O μ K}, kz W σ e O μ K -> ∃ O, K (xj r σ e μ) O := by
 induction k with
 | zero => exact fun zz h => absurd h (Au _)
 | succ k ih =>
   intro e hk O μ K h
   induction e using PC with
   | UnaryOp op x p =>
     rw [A0] at hk
     induction op with
     | Not => exact (ih x (by lia) h).elim fun zz h => vR h fun b μ O h => ⟨O, h⟩
     | _ => exact h.elim
   | BoolOp op es p =>
     rw [Aa] at hk
     exact K1 ih es (by lia) h
   | Compare a ops bs p => exact DW S h
   | Call f args kws p => exact Gn S h
   | Name x p => exact S.evb h fun c μ O h => FR h
   | Constant c k p => exact S.evb h fun c μ O h => FR h
   | _ => exact h.elim
theorem Jz {σ : LE} {e : Expr} {O : Os} {μ : q4} {K : KOb} (h : kz W σ e O μ K) : ∃ O, K (xj r σ e μ) O := FU S _ e (RU _) h
theorem LF {O : Os} {σ : LE} {f : PE} {a : PV} {args : List Expr} {kws : List SE} {μ : q4} {K : KOv} (h : O4 r W O σ f a args kws μ K) : ∃ O, K (NM r σ f a args kws μ) O := by
 induction kws using PD with
 | nil => exact wLb S h fun vs μ O h => zC h
 | cons k ks =>
   refine fN h fun h => wLb S h fun vs μ O h => ?_
   obtain ⟨ko, kv, kp⟩ := k
   induction ko with
   | some x => exact S.evb h fun v μ O h => zC h
   | none => exact S.evb h fun v μ O h => zC h
theorem Cu {O : Os} {σ : LE} {a : PV} {name : Str} {args : List Expr} {μ : q4} {K : KOv} (h : BB W O σ a name args μ K) : ∃ O, K (V8 r σ a name args μ) O := by
 unfold BB at h; unfold V8
 induction ha : qx a with
 | none => rw [ha] at h; exact (LQ h).elim fun zz h => zL h fun zz h => wLb S h fun vs μ O h => zC h
 | some x =>
   rw [ha] at h
   induction hc : jp args with
   | none => rw [hc] at h; exact wLb S h fun vs μ O h => zC h
   | some cs => rw [hc] at h; exact fC h zC zC
theorem BQ {O : Os} {σ : LE} {o : Expr} {name : Str} {apos pos : Pos} {args : List Expr} {kws : List SE} {μ : q4} {K : KOv} (h : G3 r W O σ o name apos pos args kws μ K) : ∃ O, K (Jb r σ o name apos pos args kws μ) O := by
 refine fW h fun h => S.evb h fun a μ O h => ?_
 obtain ⟨O, h⟩ := Bv h
 induction hi : qw μ a with
 | none => rw [hi] at h; exact fW h (Cu S)
 | some d => rw [hi] at h; dsimp only at h ⊢; rw [if_pos h.1]; exact zL h.2 fun f h => LF S h
omit S in
theorem ML {O : Os} {f : Str} {v : PV} {μ : q4} {K : KOv} (h : wB1 r O f v μ K) : ∃ g, pB1 r f = some g /\ ∃ O, K (g v μ) O := by
 unfold wB1 at h; unfold pB1
 cases h1 : (f == ("len" : Str)) <;> rw [h1] at h
 ·cases h2 : (f == ("type" : Str)) <;> rw [h2] at h
  ·cases h3 : (f == ("ord" : Str)) <;> rw [h3] at h
   ·cases h4 : (f == ("chr" : Str)) <;> rw [h4] at h
    ·cases h5 : (f == ("str" : Str)) <;> rw [h5] at h
     ·exact h.elim
     ·exact ⟨_, rfl, (Bv h).elim fun zz h => zL h fun i h => aVb h fun v μ O h => by
       cases hv : zB v <;> rw [hv] at h
       ·exact h.elim
       ·exact ⟨O, h⟩⟩
    ·exact ⟨_, rfl, zC h⟩
   ·exact ⟨_, rfl, zC h⟩
  ·exact ⟨_, rfl, zC h⟩
 ·exact ⟨_, rfl, zC h⟩
theorem Bt {O : Os} {σ : LE} {args : List Expr} {μ : q4} {K : KOv} (h : Y3 W O σ args μ K) : ∃ O, K (Ju r σ args μ) O := by
 unfold Y3 at h; unfold Ju
 induction h1 : one args with
 | none => rw [h1] at h; exact h.elim
 | some e => rw [h1] at h; dsimp only at h; induction h2 : xB e with
   | none => rw [h2] at h; exact h.elim
   | some q => rw [h2] at h; rw [PL, h2]; exact fW h fun h => S.evb h fun v μ O h => zC h
theorem Oo {O : Os} {σ : LE} {f : Str} {args : List Expr} {μ : q4} {K : KOv} (h : if (pB1 r f).isSome = true then (wL W σ args O μ fun m O => bW m O K fun vs μ O => oW (one vs) O K fun v => wB1 r O f v μ K) else False) : ∃ O, K ((pB1 r f).bind fun g => qa (evL r σ args μ) fun vs μ => (one vs).bind fun v => g v μ) O := by
 induction hp : pB1 r f with
 | none => rw [hp] at h; exact h.elim
 | some g =>
   rw [hp] at h
   refine wLb S h fun vs μ O h => zL h fun v h => ?_
   obtain ⟨g', h1, h2⟩ := ML h
   rw [hp] at h1
   rw [qk h1]; exact h2
theorem Gq {O : Os} {σ : LE} {f : Str} {args : List Expr} {μ : q4} {K : KOv} (h : F1 r W O σ f args μ K) : ∃ O, K (JX r σ f args μ) O := by
 refine fW h fun h => ?_
 induction hl : fns.lookup f with
 | some a => rw [hl] at h; exact wLb S h fun vs μ O h => zC h
 | none =>
   rw [hl] at h
   exact fC h (fun h => wLb S h fun vs μ O h => zC h) fun h => fC h (Bt S) (Oo S)
theorem By {O : Os} {σ : LE} {o : Option Expr} {μ : q4} {K : PR (Option PV) -> Os -> Prop} (h : LW W O σ o μ K) : ∃ O, K (WF r σ o μ) O := by
 induction o with
 | none => exact ⟨O, h⟩
 | some e => exact S.evb h fun v μ O h => ⟨O, h⟩
theorem Fz {σ : LE} {ks : List (Option Expr)} : ∀ {vs : List Expr} {O : Os} {μ : q4} {K : PR (Loc) -> Os -> Prop}, YD W σ ks vs O μ K -> ∃ O, K (gh r σ ks vs μ) O := by
 induction ks with
 | nil =>
   intro vs O μ K h
   induction vs using PD with
   | nil => exact ⟨O, h⟩
   | cons => exact h.elim
 | cons k ks ih =>
   intro vs O μ K h
   induction k with
   | none => exact h.elim
   | some k => induction vs using PD with
     | nil => exact h.elim
     | cons v vs => exact S.evb h fun a μ O h => S.evb h fun b μ O h => (ih h).elim fun zz h => vR h fun l μ O h => zL h fun x h => ⟨O, h⟩
set_option tactic.hygienic true in
theorem IM {O : Os} {σ : LE} {l : Expr} {ops : List Uv} {xs : List Expr} {μ : q4} {K : KOv} (h : HQ r W O σ l ops xs μ K) : ∃ O, K (M1 r σ l ops xs μ) O := by
 unfold HQ at h
 split at h
 ·rename_i op x
  refine fN h fun h => S.evb h fun a μ O h => S.evb h fun b μ O h => ?_
  unfold WU
  cases hc : (Dj op && zB a) <;> rw [hc] at h
  ·exact zC h
  ·obtain ⟨O, h⟩ := Bv h
   induction hi : qw μ b with
   | none => rw [hi] at h; exact zC h
   | some d => rw [hi] at h; exact aVb h fun c μ O h => aBb h fun t μ O h => ⟨O, h⟩
 ·exact h.elim
theorem Ek {σ : LE} {es : List Expr} : ∀ {out : Str} {O : Os} {μ : q4} {K : KOv}, XA W σ es out O μ K -> ∃ O, K (zR r σ out es μ) O := by
 induction es with
 | nil => exact zC
 | cons e es ih =>
   intro out O μ K h
   unfold XA at h; unfold zR
   induction hp : QX e with
   | some x =>
     rw [hp] at h
     show ∃ O, K ((VI out x).bind fun out => zR r σ out es μ) O
     unfold VI; rw [if_pos h.1]; exact ih h.2
   | none =>
     rw [hp] at h
     refine zL h fun e h => S.evb h fun v μ O h => zL h fun x h => ?_
     unfold VI; rw [if_pos h.1]; exact ih h.2
theorem IZ {O : Os} {σ : LE} {v : Expr} {lo hi st : Option Expr} {μ : q4} {K : KOv} (h : Mz W O σ v lo hi st μ K) : ∃ O, K (YP r σ v lo hi st μ) O := fW h fun h => S.evb h fun a μ O h => (By S h).elim fun zz h => vR h fun l μ O h => (By S h).elim fun zz h => vR h fun b μ O h => zC h
theorem Mc {O : Os} {σ : LE} {v i : Expr} {μ : q4} {K : KOv} (h : wIt W O σ v i μ K) : ∃ O, K (qa (r.ev σ v μ) fun a μ => qa (r.ev σ i μ) fun b => za a b) O := S.evb h fun a μ O h => S.evb h fun b μ O h => zC h
theorem El {O : Os} {σ : LE} {v i : Expr} {μ : q4} {K : KOv} (h : Hp W O σ v i μ K) : ∃ O, K (L0 r σ v i μ) O := by
 induction i using PC <;> first | exact IZ S h | exact Mc S h
theorem CJ {O : Os} {σ : LE} {ks : List (Option Expr)} {vs : List Expr} {μ : q4} {K : KOv} (h : Hi W O σ ks vs μ K) : ∃ O, K (BA r σ ks vs μ) O := fP h fun h => (Fz S h).elim fun zz h => vR h fun l μ O h => zC h
theorem E4 {O : Os} {σ : LE} {op : UY} {es : List Expr} {μ : q4} {K : KOv} (h : EU W O σ op es μ K) : ∃ O, K (GQ r σ op es μ) O := by
 refine fN h fun h => ?_
 induction h2 : two es with
 | none => rw [h2] at h; exact h.elim
 | some q => rw [h2] at h; exact S.evb h fun a μ O h => aBb h fun t μ O h => fCm h (fun h => ⟨O, h⟩) S.ev
theorem Oj {O : Os} {σ : LE} {es : List Expr} {μ : q4} {K : KOv} (h : wJn W O σ es μ K) : ∃ O, K ((if 2 <= es.length then zR r σ PF es else fun zz => none) μ) O := by
 unfold wJn at h
 by_cases hl : 2 <= es.length
 ·rw [if_pos hl] at h ⊢; exact Ek S h
 ·rw [if_neg hl] at h; exact h.elim
omit S in
theorem Nb {α β : Type} {o : Option α} {O : Os} {K : Option β -> Os -> Prop} {f : α -> Prop} {g : α -> β} (h : oW o O K f) (k : ∀ a, f a -> ∃ O, K (some (g a)) O) : ∃ O, K (o.map g) O := by
 induction o with
 | none => exact ⟨O, h⟩
 | some a => exact k a h
theorem HA {O : Os} {σ : LE} {o : Expr} {name : Str} {μ : q4} {K : KOv} (h : M8 W O σ o name μ K) : ∃ O, K (GC r σ o name μ) O := fW h fun h => S.evb h fun a μ O h => zC h
theorem Ib {O : Os} {σ : LE} {ifs : List Expr} {μ : q4} {K : KOb} (h : O9 W O σ ifs μ K) : ∃ O, K (zW r σ ifs μ) O := by
 induction ifs using PD with
 | nil => exact ⟨O, h⟩
 | cons c cs => exact fWm h (Jz S)
theorem LC {O : Os} {σ : LE} {target iter : Expr} {μ : q4} {K : PR (Src × Nat) -> Os -> Prop} (h : II W O σ target iter μ K) : ∃ O, K (vt r σ target iter μ) O := by
 unfold II at h; unfold vt
 cases ha : (yf iter).filter (fun q => q.1 == ("enumerate" : Str)) with
 | some q => rw [ha] at h; exact fW h fun h => S.evb h fun v μ O h => zL h fun n h => (LQ h).elim fun zz h => Nb h fun l h => ⟨_, h⟩
 | none => rw [ha] at h; exact S.evb h fun v μ O h => (O3 h).elim fun zz h => Nb h fun q h => ⟨_, h⟩
theorem Oe {O : Os} {σ : LE} {elt : Expr} {gens : List TR} {sc : Un} {μ : q4} {K : KOv} (h : wLC r W O σ elt gens sc μ K) : ∃ O, K (eLC r σ elt gens sc μ) O := zL h fun g h => fP h fun h => fN h fun h => (LC S h).elim fun zz h => vR h fun q μ O h => zC h
theorem C8 {O : Os} {σ : LE} {e : Expr} {μ : q4} {K : KOv} (h : H8 r W O σ e μ K) : ∃ O, K (Jl r σ e μ) O := by
 induction e using PC with
 | Constant c k p => exact ⟨O, h⟩
 | Name x p => exact Dd h
 | Tuple es c p => exact fN h fun h => wLb S h fun vs μ O h => fP h fun h => ⟨O, h⟩
 | List es p => exact fN h fun h => wLb S h fun vs μ O h => zC h
 | Dict ks vs p => exact CJ S h
 | BinOp l op x p => exact S.evb h fun a μ O h => S.evb h fun b μ O h => zC h
 | UnaryOp op x p => exact ⟨O, h⟩
 | BoolOp op es p => exact E4 S h
 | Compare l ops xs p => exact IM S h
 | IfExp t b o p => exact (Jz S h).elim fun zz h => vR h fun c μ O h => fCm h S.ev S.ev
 | Subscript v i p => exact El S h
 | Attribute o name p => exact HA S h
 | JoinedStr es p => exact Oj S h
 | Call f args kws pos =>
   induction f using PC with
   | Attribute o name apos => exact BQ S h
   | Name f p => exact fWm h (Gq S)
   | _ => exact h.elim
 | ListComp elt gens sc p => exact Oe S h
 | _ => exact h.elim
omit S in
theorem Z3 {O : Os} {σ : LE} {x : Str} {v : PV} {μ : q4} {K : KOs} (h : B6 O σ x v μ K) : ∃ O, K (kZ σ x v μ) O := zL h fun zz h => ⟨O, h⟩
omit S in
theorem GS {σ : LE} {m : PR PV} {O : Os} {K : KOs} (h : aV m O fun m O => bS σ m O K fun zz μ O => K (some (.ok .next, σ, μ)) O) : ∃ O, K (qC σ m fun zz => zh σ .next) O := (zC h).elim fun zz h => CE h fun zz μ O h => ⟨O, h⟩
omit S in
theorem C4 {O : Os} {σ : LE} {a k v : PV} {μ : q4} {K : KOs} (h : H7 r O σ a k v μ K) : ∃ O, K (BT r σ a k v μ) O := by
 refine zL h fun x h => (Bv h).elim fun O h => ?_
 induction hi : qw μ a with
 | some d => rw [hi] at h; exact GS h
 | none =>
   rw [hi] at h
   obtain ⟨O, h⟩ := GS h
   refine ⟨O, ?_⟩
   unfold Xy at h
   induction h1 : jq a with
   | none => rw [h1] at h; exact h
   | some n => rw [h1] at h; rw [PL] at h ⊢; induction h2 : qe μ n with
     | none => rw [h2] at h; exact h
     | some l => rw [h2] at h; rw [PL] at h ⊢; by_cases h3 : l.length + 1 <= Pr
                 ·rw [if_pos h3] at h ⊢; exact h
                 ·rw [if_neg h3] at h ⊢; exact h
theorem CY {O : Os} {σ : LE} {o i e : Expr} {μ : q4} {K : KOs} (h : EP r W O σ o i e μ K) : ∃ O, K (FS r σ o i e μ) O := S.evs h fun v μ O h => S.evs h fun a μ O h => S.evs h fun k μ O h => C4 h
omit S in
theorem DF {σ : LE} {a v : PV} {μ : q4} : (qC σ (WK a v μ) fun zz => zh σ .next) = gk σ a v μ := by
 unfold WK gk
 induction jq a with
 | none => rfl
 | some n => induction jq v with
   | none => rfl
   | some m => rw [PL, PL, PL, PL]; induction q5 μ n with
     | none => rfl
     | some l₀ => induction q5 μ m with
       | none => rfl
       | some l => rw [PL, PL, PL, PL]; split <;> rfl
theorem E6 {O : Os} {σ : LE} {o e : Expr} {μ : q4} {K : KOs} (h : H5 W O σ o e μ K) : ∃ O, K (Ji r σ o e μ) O := S.evs h fun v μ O h => S.evs h fun a μ O h => DF ▸ GS h
omit S in
theorem Ed {σ : LE} {p v : PV} {name : Str} {μ : q4} : (qC σ (ZC p name v μ) fun zz => zh σ .next) = (qw μ p).bind fun d => (qe μ d).bind fun l => if l.isEmpty then zh σ .next (qj μ d (.dict [(name, v)])) else none := by
 unfold ZC
 induction qw μ p with
 | none => rfl
 | some d => rw [PL, PL]; induction qe μ d with
   | none => rfl
   | some l => rw [PL, PL]; split <;> rfl
theorem CD {O : Os} {σ : LE} {y name : Str} {e : Expr} {μ : q4} {K : KOs} (h : Hf W O σ y name e μ K) : ∃ O, K (Wl r σ y name e μ) O := fW h fun h => S.evs h fun v μ O h => zL h fun p h => Ed ▸ GS h
omit S in
theorem VM {e : Expr} {q : Expr × Expr} (h : WN e = some q) : ∃ p, e = .Subscript q.1 q.2 p := by induction e using PC <;> first | exact no h | exact ⟨_, by rw [<- qk h]⟩
theorem L2 {O : Os} {σ : LE} {ts : List Expr} {μ : q4} {K : KOs} {q : Expr × Expr} (hq : (one ts).bind WN = some q) (h : O1 r W O σ q.1 q.2 μ K) : ∃ O, K (Lx r σ ts μ) O := by
 obtain ⟨t, h1, h2⟩ := bnd hq
 obtain ⟨p, rfl⟩ := VM h2
 unfold Lx; rw [h1]
 exact S.evs h fun a μ O h => S.evs h fun k μ O h => (Bv h).elim fun zz h => zL h fun zz h => fW h GS
theorem LI {O : Os} {σ : LE} {ts : List Expr} {e : Expr} {μ : q4} {K : KOs} (h : Mb W O σ ts e μ K) : ∃ O, K (if ts.any qf then none else qC σ (r.ev σ e μ) (xv σ ts)) O := by
 refine fN h fun h => S.evs h fun v μ O h => ?_
 induction ht : wB v with
 | some l => rw [ht] at h; exact ⟨O, h⟩
 | none =>
   rw [ht] at h
   obtain ⟨O, h⟩ := LQ h
   refine ⟨O, ?_⟩
   unfold xv Jx
   rw [ht]
   induction ha : j3 μ v with
   | none => rw [ha] at h; exact h
   | some l =>
     rw [ha] at h
     have h : K (Ik σ ts l μ) O := h
     unfold Ik at h
     dsimp only [PL]
     by_cases h1 : l.length = 1 /\ ts.length = 2
     ·rw [if_pos h1] at h ⊢; exact h
     ·rw [if_neg h1] at h ⊢; by_cases h2 : l.length = ts.length
      ·rw [if_pos h2] at h ⊢; induction h3 : vJ σ ts l with
       | none => rw [h3] at h; exact h
       | some σ' => rw [h3] at h; exact h
      ·rw [if_neg h2] at h ⊢; exact h
theorem Dg {O : Os} {σ : LE} {ts es : List Expr} {μ : q4} {K : KOs} (h : EM W O σ ts es μ K) : ∃ O, K (Bc r σ ts es μ) O := zL h fun t h => zL h fun q h => zL h fun x h => zL h fun y h => fW h fun h => S.evs h fun v μ O h => S.evs h fun u μ O h => zL h fun σ h => Z3 h
theorem I5 {O : Os} {σ : LE} {ts : List Expr} {e : Expr} {μ : q4} {K : KOs} (h : MX W O σ ts e μ K) : ∃ O, K (Gf r σ ts e μ) O := by
 induction e using PC <;> first | exact Dg S h | exact LI S h
theorem Ey {O : Os} {σ : LE} {o i e : Expr} {μ : q4} {K : KOs} (h : Hk r W O σ o i e μ K) : ∃ O, K (NQ r σ o i e μ) O := by
 induction i using PC <;> first | exact fW h (E6 S) | exact CY S h
theorem Cv {O : Os} {σ : LE} {t e : Expr} {μ : q4} {K : KOs} (h : H9 r W O σ t e μ K) : ∃ O, K (Xb r σ t e μ) O := by
 induction t using PC with
 | Name x p => exact fN h fun h => S.evs h fun v μ O h => Z3 h
 | Tuple ts c p => exact I5 S h
 | Attribute o name p => exact zL h fun y h => CD S h
 | Subscript o i p => exact Ey S h
 | _ => exact h.elim
theorem HT {O : Os} {σ : LE} {ts : List Expr} {e : Expr} {μ : q4} {K : KOs} (h : Mr r W O σ ts e μ K) : ∃ O, K (HF r σ ts e μ) O := by
 induction ts using PD with
 | nil => exact h.elim
 | cons t ts =>
   induction ts using PD with
   | nil => exact Cv S h
   | cons u us => exact fW h fun h => zL h fun x h => zL h fun y h => S.evs h fun v μ O h => zL h fun σ h => Z3 h
theorem M4 {O : Os} {σ : LE} {target iter : Expr} {body : List Sf} {μ : q4} {K : KOs} (h : IB r W O σ target iter body μ K) : ∃ O, K (F7 r σ target iter body μ) O := by
 unfold IB at h; unfold F7
 induction ha : xB iter with
 | some q => rw [ha] at h; exact fW h fun h => S.evs h fun v μ O h => IG h
 | none => rw [ha] at h; exact fN h fun h => S.evs h fun v μ O h => (O3 h).elim fun zz h => zL h fun q h => IG h
theorem D9 {O : Os} {σ : LE} {st : Sf} {μ : q4} {K : KOs} (h : Fp r W O σ st μ K) : ∃ O, K (wT r σ st μ) O := by
 induction st using Sy with
 | Expr e p => exact fN h fun h => S.evs h fun v μ O h => fW h fun h => ⟨O, h⟩
 | Return e p => exact zL h fun e h => S.evs h fun v μ O h => ⟨O, h⟩
 | Continue p => exact ⟨O, h⟩
 | Assign ts e p => exact HT S h
 | Delete ts p =>
   unfold Fp at h
   dsimp only at h
   induction hq : (one ts).bind WN with
   | none => rw [hq] at h; exact h.elim
   | some q => rw [hq] at h; exact L2 S hq h
 | AugAssign t op e p =>
   refine zL h fun x h => (LP h).elim fun zz h => zL h fun old h => S.evs h fun v μ O h => fW h fun h => ?_
   induction ha : qx old with
   | none => rw [ha] at h; exact h.elim
   | some a => rw [ha] at h; induction hb : qx v with
     | none => rw [hb] at h; exact h.elim
     | some b => rw [hb] at h; exact (zC h).elim fun zz h => CE h fun u μ O h => Z3 h
 | If t b o p => exact (Jz S h).elim fun zz h => CE h fun c μ O h => fC h S.ex S.ex
 | For target iter body o p => exact fW h (M4 S)
 | Raise e c p => exact ⟨O, h⟩
 | Try body hs o f p =>
   refine fW h fun h => (S.ex h).elim fun O h => ?_
   show ∃ O, K (Kc r σ body hs μ) O
   unfold Kc
   induction hm : r.ex σ body μ with
   | none => rw [hm] at h; exact ⟨O, h⟩
   | some q =>
     rw [hm] at h
     obtain ⟨q, σ₁, μ₁⟩ := q
     induction q with
     | ok f => exact ⟨O, h⟩
     | error x => exact fN h IG
 | _ => exact h.elim
theorem FP {b : List Sf} : ∀ {O μ K} {σ : LE}, YC r W σ b O μ K -> ∃ O, K (zo r σ b μ) O := by
 induction b with
 | nil => exact fun {O μ K σ} h => ⟨O, h⟩
 | cons st rest ih =>
   intro O μ K σ h
   obtain ⟨O, h⟩ := D9 S h
   unfold zo
   induction hm : wT r σ st μ with
   | none => rw [hm] at h; exact ⟨O, h⟩
   | some q =>
     rw [hm] at h
     obtain ⟨q, σ₁, μ₁⟩ := q
     induction q with
     | error x => exact ⟨O, h⟩
     | ok f => induction f with
       | next => exact ih h
       | _ => exact ⟨O, h⟩
end
theorem Ds (ft : FT) (n k : Nat) : WS (evN ft (n + k)) (wN ft n k) := by
 induction k with
 | zero => exact ⟨fun h => ⟨_, h⟩, fun h => ⟨_, h⟩⟩
 | succ k ih => exact ⟨C8 ih, FP ih⟩
inductive ju where
 | d
 | c {P : Prop} (h : P)
 | a (o : Orc) {P : Prop} (h : P)
noncomputable def ju.os : List ju -> Os
 | [] => []
 | f :: F => match f with
   | .d => .d :: ju.os F
   | .c _ => ju.os F
   | .a o _ => o :: ju.os F
noncomputable def ju.all (p : Prop) : List ju -> Prop
 | [] => p
 | f :: F => match f with
   | .d => ju.all p F
   | .c (P := P) _ => P /\ ju.all p F
   | .a _ (P := P) _ => P /\ ju.all p F
noncomputable abbrev fV {m x : PR PV} (h : m = x) : ju := .a (.v x) h
noncomputable abbrev fT {m x : PR Bool} (h : m = x) : ju := .a (.b x) h
noncomputable abbrev fS {m x : SR'} (h : m = x) : ju := .a (.s x) h
noncomputable abbrev fG {m : Option PV} {p : PV} (h : m = some p) : ju := .a (.n p) h
noncomputable abbrev fI {m x : Option Nat} (h : m = x) : ju := .a (.i x) h
noncomputable abbrev fL {m : Option (List PV)} {x : List PV} (h : m = some x) : ju := .a (.l x) h
noncomputable abbrev fR {m : Option (Src × Nat)} {x : Src × Nat} (h : m = some x) : ju := .a (.r x) h
theorem ju.get (F : List ju) {p : Prop} (h : p) : ju.all p F := by
 induction F with
 | nil => exact h
 | cons f F ih => induction f with
   | d => exact ih
   | c h' => exact ⟨h', ih⟩
   | a o h' => exact ⟨h', ih⟩
theorem ql {ft : FT} {n k : Nat} {σ : LE} {b : List Sf} {μ : q4} {R : SR'} (F : List ju) (h : ju.all (R = R) F = (wN ft n k).ex (ju.os F) σ b μ fun m zz => m = R) : (evN ft (n + k)).ex σ b μ = R :=
 let ⟨_, h⟩ := (Ds ft n k).ex (h ▸ ju.get F rfl); h
theorem xO {ft : FT} {n k : Nat} {σ : LE} {e : Expr} {μ : q4} {R : PR PV} (F : List ju) (h : ju.all (R = R) F = (wN ft n k).ev (ju.os F) σ e μ fun m zz => m = R) : (evN ft (n + k)).ev σ e μ = R :=
 let ⟨_, h⟩ := (Ds ft n k).ev (h ▸ ju.get F rfl); h
theorem Qh {ft : FT} {n k : Nat} {σ : LE} {e : List Expr} {μ : q4} {R : PR Bool} (F : List ju) (h : ju.all (R = R) F = O9 (wN ft n k) (ju.os F) σ e μ fun m zz => m = R) : zW (evN ft (n + k)) σ e μ = R :=
 let ⟨_, h⟩ := Ib (Ds ft n k) (h ▸ ju.get F rfl); h
noncomputable def Bh (ft : FT) (W : WEv) (O : Os) (a : PE) (vs : List PV) (kw : Loc) (μ : q4) (K : KOv) : Prop := match (ft a).bind fun f => (jB a f vs kw μ).map fun b => (f.body, b) with
 | some (b, σ, μ) => W.ex O σ b μ fun m O => K (zX m) O
 | none => False
theorem jv {ft : FT} {n k : Nat} {a : PE} {vs : List PV} {kw : Loc} {μ : q4} {R : PR PV} (F : List ju) (h : ju.all (R = R) F = Bh ft (wN ft n k) (ju.os F) a vs kw μ fun m zz => m = R) : (evN ft (n + (k + 1))).call a vs kw μ = R := by
 have h : Bh ft (wN ft n k) (ju.os F) a vs kw μ fun m zz => m = R := h ▸ ju.get F rfl
 show ((ft a).bind fun f => (jB a f vs kw μ).bind fun b => zX ((evN ft (n + k)).ex b.1 f.body b.2)) = R
 unfold Bh at h
 induction hf : ft a with
 | none => rw [hf] at h; exact h.elim
 | some f =>
   rw [hf, PL] at h
   induction hb : jB a f vs kw μ with
   | none => rw [hb] at h; exact h.elim
   | some b =>
     rw [hb] at h
     obtain ⟨_, h⟩ := (Ds ft n k).ex h
     rw [PL, hb]; exact h
noncomputable def qo (a : PE) : Fn := (ftT a).getD ⟨[], [], none, [], []⟩
noncomputable def stP : Sf -> Option (Nat × Expr × List Sf)
 | .For t _ b _ _ => some (1, t, b)
 | .Return e _ => e.map fun e => (0, e, [])
 | .Assign _ e _ => some (2, e, [])
 | .Expr e _ => some (3, e, [])
 | _ => none
noncomputable def pick (k i : Nat) (b : List Sf) : Expr × List Sf := ((((b.filterMap stP).filter fun q => q.1 == k)[i]?).map fun q => q.2).getD (.Constant .none 0 ⟨0, 0, 0, 0⟩, [])
noncomputable abbrev y5 (b : List Sf) : Expr := (pick 1 0 b).1
noncomputable abbrev qV (b : List Sf) : List Sf := (pick 1 0 b).2
noncomputable abbrev IT (b : List Sf) : Expr := (pick 0 0 b).1
noncomputable abbrev Ou (i : Nat) (b : List Sf) : Expr := (pick 2 i b).1
noncomputable def DQ : Expr -> Option (Expr × List TR × Un)
 | .ListComp e g s _ => some (e, g, s)
 | _ => none
noncomputable abbrev lcE (e : Expr) : Expr := ((DQ e).map fun q => q.1).getD e
noncomputable abbrev lcN (e : Expr) : List (Str × Sm) := ((DQ e).map fun q => q.2.2.names).getD []
noncomputable abbrev qt (e : Expr) : Expr := ((DQ e).bind fun q => (one q.2.1).map fun g => g.target).getD e
noncomputable abbrev qD (e : Expr) : List Expr := ((DQ e).bind fun q => (one q.2.1).map fun g => g.ifs).getD []
noncomputable abbrev qm (a : PE) : List (Str × Sm) := (qo a).sc
theorem qX {n : Nat} {a : PE} {vs : List PV} {kw : Loc} {μ μ₁ : q4} {σ : LE} (hf : (ftT a).isSome = true) (hb : jB a (qo a) vs kw μ = some (σ, μ₁)) :
 (evN ftT (n + 2)).call a vs kw μ = zX ((evN ftT (n + 1)).ex σ (qo a).body μ₁) := by
 obtain ⟨f, hf⟩ := Se.mp hf
 have e : qo a = f := by unfold qo; rw [hf]; rfl
 show yq ftT _ a vs kw μ = _
 unfold yq
 rw [hf]
 rw [e] at hb ⊢
 show (jB a f vs kw μ).bind _ = _
 rw [hb]; rfl
theorem zF {μ : q4} {x : Str} (h : Pz x = true) : jd μ (.str x) = some (.str x) := by
 have e : (Ao x).canLay0 = Pz x := rfl
 show (if (Ao x).canLay0 && decide ((Ao x).depth <= 64) then _ else _) = _
 rw [e, h]; rfl
theorem Vf {μ : q4} {a b : Str} (ha : Pz a = true) (hb : Pz b = true) : peq μ (.str a) (.str b) = some (a == b) := by
 unfold peq
 rw [zF ha, zF hb]; rfl
theorem j1 {x : Str} {μ : q4} (h : x.length <= Pr) : yx x μ = some (.ok (.str x), μ) := by
 unfold yx; rw [if_pos h]; rfl
theorem ji {l : List PV} {μ : q4} (h : l.length <= Pr) : jr l μ = some (.ok (.loc μ.length), μ ++ [.list l]) := by
 unfold jr; rw [if_pos h]; rfl
theorem ge {μ : q4} {c : q8} : (μ ++ [c])[μ.length]? = some c := List.getElem?_concat_length ..
theorem q6 {μ : q4} {l : List PV} : q5 (μ ++ [.list l]) μ.length = some l := by unfold q5; rw [ge]; rfl
theorem jg {μ : q4} {m : Nat} {l : List PV} (h : q5 μ m = some l) : qw μ (.loc m) = none := by
 show (μ[m]?).bind xA = none
 have h : (μ[m]?).bind kh = some l := h
 induction hc : μ[m]? with
 | none => rfl
 | some c => rw [hc] at h; induction c <;> first | rfl | exact no h
theorem je {μ : q4} {m : Nat} {l : List PV} (h : q5 μ m = some l) : j3 μ (.loc m) = some l := h
theorem xb {μ : q4} {l : List PV} : qw (μ ++ [.list l]) (.loc μ.length) = none := jg q6
theorem zD {μ : q4} {l : List PV} : j3 (μ ++ [.list l]) (.loc μ.length) = some l := q6
theorem Yk {μ : q4} {m : Nat} {l : List PV} {v : PV} (h : q5 μ m = some l) (hl : l.length + 1 <= Pr) : j0 (.loc m) "append" [v] μ = some (.ok .none, qj μ m (.list (l ++ [v]))) := by
 show y6 m v μ = _
 unfold y6; rw [h]; exact if_pos hl
theorem FO {μ : q4} {l : List PV} {v : PV} (hl : l.length + 1 <= Pr) : j0 (.loc μ.length) "append" [v] (μ ++ [.list l]) = some (.ok .none, μ ++ [.list (l ++ [v])]) := by
 rw [Yk q6 hl, wo]
theorem jt {a b : Str} {μ : q4} (h : (a ++ b).length <= Pr) : kK .Add (.str a) (.str b) μ = some (.ok (.str (a ++ b)), μ) := j1 h
theorem Q1 {c : Nat} (h : c < 0x110000) : Pz ⟨#[c]⟩ = true := by
 show (#[c].all fun x => decide (x < 0x110000)) = true
 rw [bh]
 intro i hi
 have : i = 0 := c7.mp hi
 subst this
 exact decide_eq_true h
theorem w6 {a b : Str} {μ : q4} {t : Bool} (ha : Pz a = true) (hb : Pz b = true) (h : (a == b) = t) : qY .Eq (.str a) (.str b) μ = some (.ok (.bool t), μ) := by
 show (peq μ (.str a) (.str b)).map _ = _
 rw [Vf ha hb, h]; rfl
theorem Ht {c d : Nat} : ((⟨#[c]⟩ : Str) == ⟨#[d]⟩) = decide (c = d) := by
 by_cases h : c = d
 ·subst h; rw [decide_eq_true rfl]; exact beq_self_eq_true _
 ·rw [decide_eq_false h]; exact beq_eq_false_iff_ne.mpr fun e => h (by cases e; rfl)
theorem Qt {c d : Nat} {μ : q4} (h : c = d) (hc : c < 0x110000) : qY .Eq (.str ⟨#[c]⟩) (.str ⟨#[d]⟩) μ = some (.ok (.bool true), μ) := w6 (Q1 hc) (Q1 (h ▸ hc)) (Ht.trans (decide_eq_true h))
theorem Qm {c d : Nat} {μ : q4} (h : c ≠ d) (hc : c < 0x110000) (hd : d < 0x110000) : qY .Eq (.str ⟨#[c]⟩) (.str ⟨#[d]⟩) μ = some (.ok (.bool false), μ) := w6 (Q1 hc) (Q1 hd) (Ht.trans (decide_eq_false h))
theorem ZP {x : Str} {μ : q4} (h : x.length = 0) : tru (.str x) μ = some (.ok false, μ) := by
 show some (Rs (decide (x.length ≠ 0)), μ) = _
 rw [decide_eq_false (not_not_intro h)]
theorem vi {x : Str} {μ : q4} (h : x.length ≠ 0) : tru (.str x) μ = some (.ok true, μ) := by
 show some (Rs (decide (x.length ≠ 0)), μ) = _
 rw [decide_eq_true h]
theorem G6 {r : Ev} {src : Src} {target : Expr} {body : List Sf} {N : Nat} {α : Type} (S : α -> LE) (M : α -> q4) (P : Nat -> α -> Prop) (Q : SR' -> Prop)
 (step : ∀ i a, i < N -> P i a -> ∃ v σ', xo src i (M a) = some (some v) /\ qu (S a) target v = some σ' /\
   ((∃ f a', (f = .next \/ f = .cont) /\ r.ex σ' body (M a) = some (.ok f, S a', M a') /\ P (i + 1) a') \/ (∃ x σ₁ μ₁, r.ex σ' body (M a) = some (.error x, σ₁, μ₁) /\ Q (some (.error x, σ₁, μ₁))) \/ (∃ p σ₁ μ₁, r.ex σ' body (M a) = some (.ok (.ret p), σ₁, μ₁) /\ Q (some (.ok (.ret p), σ₁, μ₁)))))
 (fin : ∀ a, P N a -> xo src N (M a) = some none /\ Q (some (.ok .next, S a, M a))) (k : Nat) : ∀ i a, k + i = N + 1 -> i <= N -> P i a -> Q (zQ r src target body k i (S a) (M a)) := by
 induction k with
 | zero => intro i a h1 h2; exact absurd h2 (by lia)
 | succ k ih =>
   intro i a h1 h2 h
   unfold zQ
   by_cases hi : i < N
   ·obtain ⟨v, σ', a1, a2, a3⟩ := step i a hi h
    rw [a1]
    show Q ((qu (S a) target v).bind _)
    rw [a2]
    rcases a3 with ⟨f, a', hf, b1, b2⟩ | ⟨x, σ₁, μ₁, b1, b2⟩ | ⟨x, σ₁, μ₁, b1, b2⟩ <;> (dsimp only [PL]; rw [b1])
    ·have := ih (i + 1) a' (by lia) hi b2
     rcases hf with rfl | rfl <;> exact this
    ·exact b2
    ·exact b2
   ·have e : i = N := by lia
    subst e
    obtain ⟨a1, a2⟩ := fin a h
    rw [a1]; exact a2
theorem xu {r : Ev} {src : Src} {target : Expr} {body : List Sf} {N : Nat} {α : Type} {S : α -> LE} {M : α -> q4} {P : Nat -> α -> Prop} {Q : SR' -> Prop} {a : α}
 (step : ∀ i a, i < N -> P i a -> ∃ v σ', xo src i (M a) = some (some v) /\ qu (S a) target v = some σ' /\
   ((∃ f a', (f = .next \/ f = .cont) /\ r.ex σ' body (M a) = some (.ok f, S a', M a') /\ P (i + 1) a') \/ (∃ x σ₁ μ₁, r.ex σ' body (M a) = some (.error x, σ₁, μ₁) /\ Q (some (.error x, σ₁, μ₁))) \/ (∃ p σ₁ μ₁, r.ex σ' body (M a) = some (.ok (.ret p), σ₁, μ₁) /\ Q (some (.ok (.ret p), σ₁, μ₁)))))
 (fin : ∀ a, P N a -> xo src N (M a) = some none /\ Q (some (.ok .next, S a, M a))) (h : P 0 a) : Q (zQ r src target body (N + 1) 0 (S a) (M a)) := G6 S M P Q step fin (N + 1) 0 a rfl (Rj _) h
theorem qU {r : Ev} {src : Src} {target elt : Expr} {ifs : List Expr} {α : Type} {l : List α} {μ : q4} {Inv : LE -> Prop} {f : α -> PV} {g : α -> Bool} (V : α -> PV) (hn : ∀ i, xo src i μ = some ((l[i]?).map V))
 (h : ∀ σ v, Inv σ -> v ∈ l -> ∃ σ', qu σ target (V v) = some σ' /\ Inv σ' /\ zW r σ' ifs μ = some (.ok (g v), μ) /\ (g v = true -> r.ev σ' elt μ = some (.ok (f v), μ))) (k : Nat) :
 ∀ (i : Nat) (σ : LE), Inv σ -> k + i = l.length + 1 -> i <= l.length -> zV r src target ifs elt k i σ μ = some (.ok (((l.drop i).filter g).map f), μ) := by
 induction k with
 | zero => intro i σ _ h1 h2; exact absurd h2 (by lia)
 | succ k ih =>
   intro i σ hI h1 h2
   unfold zV
   rw [hn]
   by_cases hi : i < l.length
   ·obtain ⟨σ', a1, a2, a3, a4⟩ := h σ l[i] hI (Rx hi)
    rw [PY hi]
    show (qu σ target (V l[i])).bind _ = _
    rw [a1]
    show qa (zW r σ' ifs μ) _ = _
    have hr := ih (i + 1) σ' a2 (by lia) hi
    rw [a3, S9 hi, filter_cons]
    show (if g l[i] = true then _ else _) = _
    by_cases hg : g l[i] = true
    ·rw [if_pos hg, if_pos hg, a4 hg]
     show qa (zV r src target ifs elt k (i + 1) σ' μ) _ = _
     rw [hr]; rfl
    ·rw [if_neg hg, if_neg hg]; exact hr
   ·have e : i = l.length := by lia
    subst e
    rw [RC (PK _), TE]; rfl
theorem qA {r : Ev} {σ : LE} {elt target : Expr} {ifs : List Expr} {q : Src × Nat} {μ μ' : q4} {ys : List PV} (h : zV r q.1 target ifs elt q.2 0 σ μ = some (.ok ys, μ')) (hl : ys.length <= Pr) : qF r σ elt target ifs q μ = some (.ok (.loc μ'.length), μ' ++ [.list ys]) := by
 unfold qF; rw [h]; exact ji hl
theorem qK {μ : q4} {m : Nat} {l : List PV} (h : q5 μ m = some l) : zY (.loc m) μ = some (.list m, l.length + 1) := by
 show (q5 μ m).map _ = _
 rw [h]; rfl
theorem qG {μ : q4} {m : Nat} {α : Type} {l : List α} {V : α -> PV} (h : q5 μ m = some (l.map V)) (i : Nat) : xo (.list m) i μ = some ((l[i]?).map V) := by
 show (q5 μ m).map _ = _
 rw [h, Ay, SW]
noncomputable def ch (c : Nat) : Str := ⟨#[c]⟩
structure PM' where
 l : List Str
 p : Str
 e : Bool
 q : Bool
noncomputable def yO (s : PM') (c : Nat) : PM' :=
 if s.e = true then ⟨s.l, s.p ++ ch c, false, s.q⟩
 else if s.q = true then (if c = 92 then ⟨s.l, s.p, true, s.q⟩ else if c = 34 then ⟨s.l, s.p ++ ch c, s.e, false⟩ else ⟨s.l, s.p ++ ch c, s.e, s.q⟩)
 else if c = 44 then ⟨s.l ++ [s.p], PF, s.e, s.q⟩
 else if c = 34 then ⟨s.l, s.p ++ ch c, s.e, true⟩
 else ⟨s.l, s.p ++ ch c, s.e, s.q⟩
noncomputable def xr (s : PM') : List Nat -> PM'
 | [] => s
 | c :: cs => xr (yO s c) cs
noncomputable def m0 : PM' := ⟨[], PF, false, false⟩
noncomputable def Kd (s : PM') : List Str := (if s.p.length = 0 then s.l else s.l ++ [s.p]).map RT
noncomputable def qH (x : Str) : List Str := Kd (xr m0 x.cps.toList)
noncomputable def YZ (x : Str) (m : Nat) (s : PM') (t : Loc) : Loc := ("s", .str x) :: ("res", .loc m) :: ("part", .str s.p) :: ("escape", .bool s.e) :: ("quote", .bool s.q) :: t
noncomputable abbrev ls (l : List Str) : q8 := .list (l.map .str)
theorem M5 {l : List Str} {p : Str} : .list (l.map .str ++ [.str p]) = ls (l ++ [p]) := (congrArg q8.list (Rt (f := PV.str) (l₁ := l) (l₂ := [p]))).symm
noncomputable abbrev T43 (n : Nat) (x : Str) (c : Nat) (μ : q4) (f : j6) (s s' : PM') : Prop := (evN ftT (n + 9)).ex ⟨qm 43, YZ x μ.length s [("cur", .str ⟨#[c]⟩)]⟩ (qV (qo 43).body) (μ ++ [ls s.l]) = some (.ok f, ⟨qm 43, YZ x μ.length s' [("cur", .str ⟨#[c]⟩)]⟩, μ ++ [ls s'.l])
theorem W8 {μ : q4} {l : List Str} {v : Str} (hl : l.length + 1 <= Pr) : j0 (.loc μ.length) "append" [.str v] (μ ++ [ls l]) = some (.ok .none, μ ++ [ls (l ++ [v])]) := by
 rw [FO (by rw [PJ]; exact hl), M5]
section
variable {n : Nat} {x : Str} {c : Nat} {μ : q4} {l : List Str} {p : Str} {q : Bool} (hc : c < 0x110000)
theorem CZ (hp : (p ++ ch c).length <= Pr) : T43 n x c μ .cont ⟨l, p, true, q⟩ ⟨l, p ++ ch c, false, q⟩ := by
 exact ql [fV (j1 (μ := μ ++ [ls (PM'.l (PM'.mk l p true q))]) hp)] (by kernel_rfl)
include hc
theorem CF (h : c = 92) : T43 n x c μ .cont ⟨l, p, false, true⟩ ⟨l, p, true, true⟩ := by
 exact ql [fV (Qt (μ := μ ++ [ls (PM'.l (PM'.mk l p false true))]) h hc)] (by kernel_rfl)
theorem Cf (hp : (p ++ ch c).length <= Pr) (h1 : c ≠ 92) (h : c = 34) : T43 n x c μ .cont ⟨l, p, false, true⟩ ⟨l, p ++ ch c, false, false⟩ := by
 exact ql [fV (Qm (μ := μ ++ [ls (PM'.l (PM'.mk l p false true))]) h1 hc (by decide)), fV (Qt (μ := μ ++ [ls (PM'.l (PM'.mk l p false true))]) h hc), fV (j1 (μ := μ ++ [ls (PM'.l (PM'.mk l p false true))]) hp)] (by kernel_rfl)
theorem LU (hp : (p ++ ch c).length <= Pr) (h1 : c ≠ 92) (h : c ≠ 34) : T43 n x c μ .cont ⟨l, p, false, true⟩ ⟨l, p ++ ch c, false, true⟩ := by
 exact ql [fV (Qm (μ := μ ++ [ls (PM'.l (PM'.mk l p false true))]) h1 hc (by decide)), fV (Qm (μ := μ ++ [ls (PM'.l (PM'.mk l p false true))]) h hc (by decide)), fV (j1 (μ := μ ++ [ls (PM'.l (PM'.mk l p false true))]) hp)] (by kernel_rfl)
theorem IU (hl : l.length + 1 <= Pr) (h : c = 44) : T43 n x c μ .cont ⟨l, p, false, false⟩ ⟨l ++ [p], PF, false, false⟩ := by
 exact ql [fV (Qt (μ := μ ++ [ls (PM'.l (PM'.mk l p false false))]) h hc), fI (xb (μ := μ) (l := Rm PV.str (PM'.l (PM'.mk l p false false)))), fL (zD (μ := μ) (l := Rm PV.str (PM'.l (PM'.mk l p false false)))), fV (W8 (μ := μ) (v := PM'.p (PM'.mk l p false false)) hl)] (by kernel_rfl)
theorem L6 (hp : (p ++ ch c).length <= Pr) (h1 : c ≠ 44) (h : c = 34) : T43 n x c μ .next ⟨l, p, false, false⟩ ⟨l, p ++ ch c, false, true⟩ := by
 exact ql [fV (Qm (μ := μ ++ [ls (PM'.l (PM'.mk l p false false))]) h1 hc (by decide)), fV (Qt (μ := μ ++ [ls (PM'.l (PM'.mk l p false false))]) h hc), fV (j1 (μ := μ ++ [ls (PM'.l (PM'.mk l p false false))]) hp)] (by kernel_rfl)
theorem N7 (hp : (p ++ ch c).length <= Pr) (h1 : c ≠ 44) (h : c ≠ 34) : T43 n x c μ .next ⟨l, p, false, false⟩ ⟨l, p ++ ch c, false, false⟩ := by
 exact ql [fV (Qm (μ := μ ++ [ls (PM'.l (PM'.mk l p false false))]) h1 hc (by decide)), fV (Qm (μ := μ ++ [ls (PM'.l (PM'.mk l p false false))]) h hc (by decide)), fV (j1 (μ := μ ++ [ls (PM'.l (PM'.mk l p false false))]) hp)] (by kernel_rfl)
theorem IA {s : PM'} (hl : s.l.length + 1 <= Pr) (hp : s.p.length + 1 <= Pr) : ∃ f, (f = .next \/ f = .cont) /\ T43 n x c μ f s (yO s c) := by
 obtain ⟨l, p, e, q⟩ := s
 have hp' : (p ++ ch c).length <= Pr := by rw [PN]; exact hp
 induction e with
 | true => exact ⟨.cont, .inr rfl, CZ hp'⟩
 | false =>
   induction q with
   | true =>
     show ∃ f, _ /\ T43 n x c μ f _ (if c = 92 then _ else if c = 34 then _ else _)
     by_cases h : c = 92
     ·rw [if_pos h]; exact ⟨.cont, .inr rfl, CF hc h⟩
     ·rw [if_neg h]
      by_cases h' : c = 34
      ·rw [if_pos h']; exact ⟨.cont, .inr rfl, Cf hc hp' h h'⟩
      ·rw [if_neg h']; exact ⟨.cont, .inr rfl, LU hc hp' h h'⟩
   | false =>
     show ∃ f, _ /\ T43 n x c μ f _ (if c = 44 then _ else if c = 34 then _ else _)
     by_cases h : c = 44
     ·rw [if_pos h]; exact ⟨.cont, .inr rfl, IU hc hl h⟩
     ·rw [if_neg h]
      by_cases h' : c = 34
      ·rw [if_pos h']; exact ⟨.next, .inl rfl, L6 hc hp' h h'⟩
      ·rw [if_neg h']; exact ⟨.next, .inl rfl, N7 hc hp' h h'⟩
end
structure PI (s : PM') (i : Nat) : Prop where
 l : s.l.length <= i
 p : s.p.length <= i
 m : ∀ y ∈ s.l, y.length <= i
theorem PI.step {s : PM'} {i c : Nat} (h : PI s i) : PI (yO s c) (i + 1) := by
 have hp : (s.p ++ ch c).length <= i + 1 := by rw [PN]; exact Rb h.p
 have hm : ∀ y ∈ s.l, y.length <= i + 1 := fun y q => Ru (h.m y q)
 have hl := Ru h.l
 have h1 : ∀ e q, PI ⟨s.l, s.p ++ ch c, e, q⟩ (i + 1) := fun zz zz => ⟨hl, hp, hm⟩
 unfold yO
 split
 ·exact h1 _ _
 ·split
  ·split
   ·exact ⟨hl, Ru h.p, hm⟩
   ·split <;> exact h1 _ _
  ·split
   ·refine ⟨?_, Rj _, fun y q => ?_⟩
    ·rw [PB]; exact Rb h.l
    ·rcases PU.mp q with q | q
     ·exact hm y q
     ·rw [Pw.mp q]; exact Ru h.p
   ·split <;> exact h1 _ _
noncomputable def tOf : Option PV -> Loc
 | none => []
 | some v => [("cur", v)]
theorem MR {x : Str} {m : Nat} {s : PM'} {t : Option PV} {v : PV} : qu ⟨qm 43, YZ x m s (tOf t)⟩ (y5 (qo 43).body) v = some ⟨qm 43, YZ x m s [("cur", v)]⟩ := by
 induction t <;> kernel_rfl
structure P43 (x : Str) (i : Nat) (a : PM' × Option PV) : Prop where
 r : xr a.1 (x.cps.toList.drop i) = xr m0 x.cps.toList
 p : PI a.1 i
noncomputable abbrev S43 (x : Str) (μ : q4) (a : PM' × Option PV) : LE := ⟨qm 43, YZ x μ.length a.1 (tOf a.2)⟩
noncomputable abbrev M43 (μ : q4) (a : PM' × Option PV) : q4 := μ ++ [ls a.1.l]
theorem M3 {x : Str} {i : Nat} {μ : q4} (h : i < x.cps.toList.length) : xo (.str x) i μ = some (some (.str ⟨#[x.cps.toList[i]]⟩)) := by
 show some ((x.cps[i]?).map _) = _
 rw [<- AE, PY h]; rfl
theorem Db {x : Str} {μ : q4} : xo (.str x) x.length μ = some none := by
 show some ((x.cps[x.length]?).map _) = _
 rw [show x.cps[x.length]? = none from Array.getElem?_eq_none (PK _)]; rfl
theorem L7 {n : Nat} {x : Str} {μ : q4} (hx : ∀ c ∈ x.cps.toList, c < 0x110000) (hlen : x.length + 1 <= Pr) : ∃ a, P43 x x.length a /\ zQ (evN ftT (n + 9)) (.str x) (y5 (qo 43).body) (qV (qo 43).body) (x.length + 1) 0 (S43 x μ (m0, none)) (M43 μ (m0, none)) = some (.ok .next, S43 x μ a, M43 μ a) := by
 have hsz : x.cps.toList.length = x.length := TM
 refine xu (P := P43 x) (Q := fun R => ∃ a, P43 x x.length a /\ R = some (.ok .next, S43 x μ a, M43 μ a)) (fun i a hi h => ?_) (fun a h => ⟨Db, a, h, rfl⟩) ⟨rfl, PK _, PK _, fun zz h => nomatch h⟩
 have hi' : i < x.cps.toList.length := hsz ▸ hi
 have hr := h.r
 rw [S9 hi'] at hr
 have hl : i + 1 <= Pr := Pq (Rb (Tf hi)) hlen
 obtain ⟨f, hf, he⟩ := IA (n := n) (x := x) (μ := μ) (s := a.1) (hx _ (Rx hi')) (Pq (Rb h.p.l) hl) (Pq (Rb h.p.p) hl)
 exact ⟨_, _, M3 hi', MR, .inl ⟨f, (yO a.1 x.cps.toList[i], some _), hf, he, hr, h.p.step⟩⟩
theorem Ko (x : Str) (h : x.length <= Pr) : (RT x).length <= Pr := by
 unfold RT bH
 split
 ·exact h
 ·exact fits_stripped _ _ _ h
theorem zy {α : Type} (l : List α) : l.filter (fun zz => true) = l := ax.mpr fun zz zz => rfl
noncomputable abbrev e43 : Expr := IT (qo 43).body
theorem zt {x : Str} {p : PV} {l : Loc} : Sg x (upd l x p) = some p := by rw [j2, if_pos rfl]
theorem jO {x y : Str} {p : PV} {l : Loc} (h : (x == y) = false) : Sg x (upd l y p) = Sg x l := by rw [j2, if_neg (by intro e; rw [e] at h; exact absurd (beq_self_eq_true y) (h ▸ Te))]
theorem Mu {n : Nat} {y : Str} {μ : q4} {vs vs' : Loc} (hv : vs'.lookup ("part" : Str) = some (.str y)) (h2 : j0 (.str y) "strip" [] μ = some (.ok (.str (RT y)), μ)) : (evN ftT (n + 3)).ev ⟨(LE.comp ⟨qm 43, vs⟩ (lcN e43)).sc, vs'⟩ (lcE e43) μ = some (.ok (.str (RT y)), μ) := by
 exact xO [fG (hv), fV (h2)] (by kernel_rfl)
theorem FD {n : Nat} {vs : Loc} {l : List Str} {μ : q4} {m : Nat} (hm : q5 μ m = some (l.map .str)) (hl : l.length <= Pr) (hs : ∀ y ∈ l, y.length <= Pr) :
 qF (evN ftT (n + 3)) (LE.comp ⟨qm 43, vs⟩ (lcN e43)) (lcE e43) (qt e43) (qD e43) (.list m, (l.map PV.str).length + 1) μ = some (.ok (.loc μ.length), μ ++ [ls (l.map RT)]) := by
 have h := qU (r := evN ftT (n + 3)) (target := qt e43) (elt := lcE e43) (ifs := qD e43) (f := fun y => .str (RT y)) (g := fun zz => true) (Inv := fun σ => ∃ vs', σ = ⟨(LE.comp ⟨qm 43, vs⟩ (lcN e43)).sc, vs'⟩) PV.str (qG hm) (by
  rintro _ y ⟨vs', rfl⟩ hy
  exact ⟨⟨_, upd vs' "part" (.str y)⟩, by kernel_rfl, ⟨_, rfl⟩, by kernel_rfl, fun zz => Mu zt (j1 (Ko y (hs y hy)))⟩) ((l.map PV.str).length + 1) 0 (LE.comp ⟨qm 43, vs⟩ (lcN e43)) ⟨_, rfl⟩ (by rw [PJ]) (Rj _)
 rw [zy, Ad] at h
 refine (qA h (by rw [PJ]; exact hl)).trans ?_
 unfold ls; rw [Su]; rfl
theorem Pl : (ftT 43).isSome = true := by kernel_rfl
theorem I7 {v : PV} {μ : q4} : jB 43 (qo 43) [v] [] μ = some (⟨qm 43, [("s", v)]⟩, μ) := by kernel_rfl
theorem Bx {n : Nat} {x : Str} {μ : q4} (hx : ∀ c ∈ x.cps.toList, c < 0x110000) (hlen : x.length + 1 <= Pr) :
 ∃ L, (evN ftT (n + 12)).call 43 [.str x] [] μ = some (.ok (.loc (μ.length + 1)), μ ++ [.list L] ++ [ls (qH x)]) := by
 obtain ⟨⟨s, t⟩, hI, hloop⟩ := L7 (n := n + 1) (μ := μ) hx hlen
 have hs : s = xr m0 x.cps.toList := by
  have h := hI.r
  rwa [show x.cps.toList.drop x.length = [] from List.drop_of_length_le (TB TM)] at h
 have hl1 : s.l.length + 1 <= Pr := Pq (Rb hI.p.l) hlen
 have hm : ∀ y ∈ s.l, y.length <= Pr := fun y hy => Pq (hI.p.m y hy) (RL hlen)
 have hp : s.p.length <= Pr := Pq hI.p.p (RL hlen)
 rw [qX Pl I7]
 unfold qH Kd
 rw [<- hs]
 clear hs hI
 by_cases h0 : s.p.length = 0
 ·rw [if_pos h0]
  have hc := FD (n := n + 6) (vs := YZ x μ.length s (tOf t)) (l := s.l) (μ := μ ++ [ls s.l]) (m := μ.length) q6 (RL hl1) hm
  have hsr : zY (.loc μ.length) (μ ++ [ls s.l]) = some (.list μ.length, (s.l.map PV.str).length + 1) := qK q6
  have hr : (evN ftT (n + 11)).ex ⟨qm 43, [("s", .str x)]⟩ (qo 43).body μ = some (.ok (.ret (.loc (μ ++ [ls s.l]).length)), S43 x μ (s, t), μ ++ [ls s.l] ++ [ls (s.l.map RT)]) := by
   exact ql [fS (hloop), fT (ZP (μ := M43 μ (s, t)) h0), fR (hsr), fV (hc)] (by kernel_rfl)
  rw [hr, PB]; exact ⟨_, rfl⟩
 ·rw [if_neg h0]
  have hl : (s.l ++ [s.p]).length <= Pr := by rw [PB]; exact hl1
  have hc := FD (n := n + 6) (vs := YZ x μ.length s (tOf t)) (l := s.l ++ [s.p]) (μ := μ ++ [ls (s.l ++ [s.p])]) (m := μ.length) q6 hl fun y hy => (PU.mp hy).elim (hm y) fun q => Pw.mp q ▸ hp
  have hsr : zY (.loc μ.length) (μ ++ [ls (s.l ++ [s.p])]) = some (.list μ.length, ((s.l ++ [s.p]).map PV.str).length + 1) := qK q6
  have ha : j0 (.loc μ.length) "append" [.str s.p] (μ ++ [ls s.l]) = some (.ok .none, μ ++ [ls (s.l ++ [s.p])]) := W8 hl1
  have hr : (evN ftT (n + 11)).ex ⟨qm 43, [("s", .str x)]⟩ (qo 43).body μ = some (.ok (.ret (.loc (μ ++ [ls (s.l ++ [s.p])]).length)), S43 x μ (s, t), μ ++ [ls (s.l ++ [s.p])] ++ [ls ((s.l ++ [s.p]).map RT)]) := by
   exact ql [fS (hloop), fT (vi (μ := M43 μ (s, t)) h0), fI (xb (μ := μ) (l := Rm PV.str (PM'.l (RN (s, t))))), fL (zD (μ := μ) (l := Rm PV.str (PM'.l (RN (s, t))))), fV (ha), fR (hsr), fV (hc)] (by kernel_rfl)
  rw [hr, PB]; exact ⟨_, rfl⟩
theorem le1 : 1 <= Pr := by decide
theorem Bq : 2 <= Pr := by decide
noncomputable def sp (x : Str) : List Str := TA x "=" 1
theorem VA {x : Str} {μ : q4} (hx : x.length <= 16000000) (hl : (sp x).length <= Pr) : jW x "split" [.str "=", .int 1] μ = some (.ok (.loc μ.length), μ ++ [ls (sp x)]) := by
 show (if decide (16000000 < x.length) = true then none else jr ((sp x).map .str) μ) = _
 rw [decide_eq_false (Sh.mpr hx)]
 exact ji (by rw [PJ]; exact hl)
theorem Wz {v : Str} {i : Nat} (hok : Pz v = true) : v.cps.getD i 0 < 0x110000 := by
 have hok : (v.cps.all fun x => decide (x < 0x110000)) = true := hok
 rw [Array.getD_eq_getD_getElem?]
 induction h : v.cps[i]? with
 | none => exact Nat.zero_lt_succ _
 | some c =>
   obtain ⟨hi, he⟩ := Tu.mp h
   exact he ▸ of_decide_eq_true (bh.mp hok i hi)
noncomputable def unq (v : Str) : Str := if v.cps.getD 0 0 = 34 /\ v.cps.getD (v.length - 1) 0 = 34 then UC v (some 1) (some (-1)) else v
theorem Vp {v : Str} {μ : q4} (h : v.length ≠ 0) : za (.str v) (.int 0) μ = some (.ok (.str ⟨#[v.cps.getD 0 0]⟩), μ) := if_neg h
theorem H3 {v : Str} {μ : q4} (h : v.length = 0) : za (.str v) (.int 0) μ = some (.error xI, μ) := if_pos h
theorem DO {v : Str} {μ : q4} (h : v.length ≠ 0) : za (.str v) (.int (-1)) μ = some (.ok (.str ⟨#[v.cps.getD (v.length - 1) 0]⟩), μ) := if_neg h
theorem y7 {μ J : q4} {c : q8} : (μ ++ c :: J)[μ.length]? = some c := by rw [Rn (PK _), Ss]; rfl
theorem xf {μ J : q4} {d : Loc} : qw (μ ++ .dict d :: J) (.loc μ.length) = none := by
 show ((μ ++ .dict d :: J)[μ.length]?).bind xA = none
 rw [y7]; rfl
theorem Vv {μ J : q4} {d : Loc} {k : Str} {v : PV} (h : d.length + 1 <= Pr) : Xy (.loc μ.length) k v (μ ++ .dict d :: J) = some (.ok .none, μ ++ .dict (qR d k v) :: J) := by
 show (((μ ++ .dict d :: J)[μ.length]?).bind wx).bind _ = _
 rw [y7]
 refine (if_pos h).trans ?_
 unfold qj; rw [SQ _ _ (PK _), Ss]; rfl
noncomputable def t38 : Option (PV × PV × PV) -> Loc
 | none => []
 | some q => [("elt", q.1), ("k", q.2.1), ("v", q.2.2)]
noncomputable abbrev S38 (a D : Nat) (t : Loc) : LE := ⟨qm 38, ("l", .loc a) :: ("parsed", .loc D) :: t⟩
section
variable {n a : Nat} {μ J : q4} {d : Loc} {s x k v : Str}
theorem Jk (hs : s.length <= 16000000) (hl : (sp s).length <= Pr) : jW s "split" [.str "=", .int 1] (μ ++ .dict d :: J) = some (.ok (.loc (μ ++ .dict d :: J).length), μ ++ .dict d :: (J ++ [ls (sp s)])) := by
 rw [VA hs hl, PH]; rfl
theorem xK {l : List Str} : j3 (μ ++ .dict d :: (J ++ [ls l])) (.loc (μ ++ .dict d :: J).length) = some (l.map .str) := by
 have h : μ ++ .dict d :: (J ++ [ls l]) = μ ++ .dict d :: J ++ [ls l] := by rw [PH]; rfl
 rw [h]; exact zD
noncomputable abbrev T38 (n a : Nat) (s : Str) (μ J : q4) (d : Loc) (t : Option (PV × PV × PV)) : SR' := (evN ftT (n + 9)).ex (S38 a μ.length (upd (t38 t) "elt" (.str s))) (qV (qo 38).body) (μ ++ .dict d :: J)
theorem Em {t : Option (PV × PV × PV)} (hs : s.length <= 16000000) (hsp : sp s = [x]) : T38 n a s μ J d t = some (.error wK, S38 a μ.length (upd (t38 t) "elt" (.str s)), μ ++ .dict d :: (J ++ [ls [x]])) := by
 have h1 := Jk (μ := μ) (J := J) (d := d) hs (hsp ▸ le1)
 rw [hsp] at h1
 cases t
 ·exact ql [fV (h1), fL (xK (μ := μ) (J := J) (d := d) (l := [x]))] (by kernel_rfl)
 ·exact ql [fV (h1), fL (xK (μ := μ) (J := J) (d := d) (l := [x]))] (by kernel_rfl)
theorem CS {t : Option (PV × PV × PV)} (hs : s.length <= 16000000) (hsp : sp s = [k, v]) (h0 : v.length = 0) : T38 n a s μ J d t = some (.error xI, S38 a μ.length (t38 (some (.str s, .str k, .str v))), μ ++ .dict d :: (J ++ [ls [k, v]])) := by
 have h1 := Jk (μ := μ) (J := J) (d := d) hs (hsp ▸ Bq)
 rw [hsp] at h1
 cases t
 ·exact ql [fV (h1), fL (xK (μ := μ) (J := J) (d := d) (l := [k, v])), fV (H3 (μ := μ ++ q8.dict d :: (J ++ [ls [k, v]])) h0)] (by kernel_rfl)
 ·exact ql [fV (h1), fL (xK (μ := μ) (J := J) (d := d) (l := [k, v])), fV (H3 (μ := μ ++ q8.dict d :: (J ++ [ls [k, v]])) h0)] (by kernel_rfl)
theorem IR {t : Option (PV × PV × PV)} (hs : s.length <= 16000000) (hsp : sp s = [k, v]) (h0 : v.length ≠ 0) (hok : Pz v = true) (hsl : (UC v (some 1) (some (-1))).length <= Pr) (hd : d.length + 1 <= Pr) : T38 n a s μ J d t = some (.ok .next, S38 a μ.length (t38 (some (.str s, .str k, .str (unq v)))), μ ++ .dict (qR d k (.str (unq v))) :: (J ++ [ls [k, v]])) := by
 have h1 := Jk (μ := μ) (J := J) (d := d) hs (hsp ▸ Bq)
 rw [hsp] at h1
 have c1 : v.cps.getD 0 0 < 0x110000 := Wz hok
 have c2 : v.cps.getD (v.length - 1) 0 < 0x110000 := Wz hok
 have h2 : wM (.str v) (some (.int 1)) (some (.int (-1))) (μ ++ .dict d :: (J ++ [ls [k, v]])) = some (.ok (.str (UC v (some 1) (some (-1)))), μ ++ .dict d :: (J ++ [ls [k, v]])) := j1 hsl
 unfold unq
 by_cases q1 : v.cps.getD 0 0 = 34
 ·by_cases q2 : v.cps.getD (v.length - 1) 0 = 34
  ·rw [if_pos ⟨q1, q2⟩]
   cases t
   ·exact ql [fV (h1), fL (xK (μ := μ) (J := J) (d := d) (l := [k, v])), fV (Vp (μ := μ ++ q8.dict d :: (J ++ [ls [k, v]])) h0), fV (Qt (μ := μ ++ q8.dict d :: (J ++ [ls [k, v]])) q1 c1), fV (DO (μ := μ ++ q8.dict d :: (J ++ [ls [k, v]])) h0), fV (Qt (μ := μ ++ q8.dict d :: (J ++ [ls [k, v]])) q2 c2), fV (h2), fI (xf (μ := μ) (J := J ++ [ls [k, v]]) (d := d)), fV (Vv (μ := μ) (J := J ++ [ls [k, v]]) (k := k) (v := PV.str (UC v (some 1) (some (-1)))) hd)] (by kernel_rfl)
   ·exact ql [fV (h1), fL (xK (μ := μ) (J := J) (d := d) (l := [k, v])), fV (Vp (μ := μ ++ q8.dict d :: (J ++ [ls [k, v]])) h0), fV (Qt (μ := μ ++ q8.dict d :: (J ++ [ls [k, v]])) q1 c1), fV (DO (μ := μ ++ q8.dict d :: (J ++ [ls [k, v]])) h0), fV (Qt (μ := μ ++ q8.dict d :: (J ++ [ls [k, v]])) q2 c2), fV (h2), fI (xf (μ := μ) (J := J ++ [ls [k, v]]) (d := d)), fV (Vv (μ := μ) (J := J ++ [ls [k, v]]) (k := k) (v := PV.str (UC v (some 1) (some (-1)))) hd)] (by kernel_rfl)
  ·rw [if_neg fun h => q2 h.2]
   cases t
   ·exact ql [fV (h1), fL (xK (μ := μ) (J := J) (d := d) (l := [k, v])), fV (Vp (μ := μ ++ q8.dict d :: (J ++ [ls [k, v]])) h0), fV (Qt (μ := μ ++ q8.dict d :: (J ++ [ls [k, v]])) q1 c1), fV (DO (μ := μ ++ q8.dict d :: (J ++ [ls [k, v]])) h0), fV (Qm (μ := μ ++ q8.dict d :: (J ++ [ls [k, v]])) q2 c2 (by decide)), fI (xf (μ := μ) (J := J ++ [ls [k, v]]) (d := d)), fV (Vv (μ := μ) (J := J ++ [ls [k, v]]) (k := k) (v := PV.str v) hd)] (by kernel_rfl)
   ·exact ql [fV (h1), fL (xK (μ := μ) (J := J) (d := d) (l := [k, v])), fV (Vp (μ := μ ++ q8.dict d :: (J ++ [ls [k, v]])) h0), fV (Qt (μ := μ ++ q8.dict d :: (J ++ [ls [k, v]])) q1 c1), fV (DO (μ := μ ++ q8.dict d :: (J ++ [ls [k, v]])) h0), fV (Qm (μ := μ ++ q8.dict d :: (J ++ [ls [k, v]])) q2 c2 (by decide)), fI (xf (μ := μ) (J := J ++ [ls [k, v]]) (d := d)), fV (Vv (μ := μ) (J := J ++ [ls [k, v]]) (k := k) (v := PV.str v) hd)] (by kernel_rfl)
 ·rw [if_neg fun h => q1 h.1]
  cases t
  ·exact ql [fV (h1), fL (xK (μ := μ) (J := J) (d := d) (l := [k, v])), fV (Vp (μ := μ ++ q8.dict d :: (J ++ [ls [k, v]])) h0), fV (Qm (μ := μ ++ q8.dict d :: (J ++ [ls [k, v]])) q1 c1 (by decide)), fI (xf (μ := μ) (J := J ++ [ls [k, v]]) (d := d)), fV (Vv (μ := μ) (J := J ++ [ls [k, v]]) (k := k) (v := PV.str v) hd)] (by kernel_rfl)
  ·exact ql [fV (h1), fL (xK (μ := μ) (J := J) (d := d) (l := [k, v])), fV (Vp (μ := μ ++ q8.dict d :: (J ++ [ls [k, v]])) h0), fV (Qm (μ := μ ++ q8.dict d :: (J ++ [ls [k, v]])) q1 c1 (by decide)), fI (xf (μ := μ) (J := J ++ [ls [k, v]]) (d := d)), fV (Vv (μ := μ) (J := J ++ [ls [k, v]]) (k := k) (v := PV.str v) hd)] (by kernel_rfl)
end
noncomputable def kq : List Str -> Loc -> Except Exn (Loc)
 | [], d => .ok d
 | s :: r, d => match two (sp s) with
   | some q => if q.2.length = 0 then .error xI else kq r (qR d q.1 (.str (unq q.2)))
   | none => .error wK
structure zU (s : Str) : Prop where
 l : s.length <= 16000000
 s : (∃ x, sp s = [x]) \/ ∃ k v, sp s = [k, v] /\ v.length <= 16000000 /\ Pz v = true
theorem ZO {d : Loc} {k : Str} {v : PV} : (qR d k v).length <= d.length + 1 := by
 unfold qR
 split
 ·rw [PJ]; exact U5 _
 ·exact TB PB
theorem jN {μ J : q4} {a : Nat} (h : a < μ.length) : (μ ++ J)[a]? = μ[a]? := RB h
theorem wG {μ ν : q4} {a : Nat} (h : ν[a]? = μ[a]?) : q5 ν a = q5 μ a := congrArg (·.bind kh) h
theorem qc {μ J : q4} {a : Nat} {l : List PV} (h : q5 μ a = some l) : q5 (μ ++ J) a = some l := by
 obtain ⟨c, hc, hl⟩ := bnd h
 exact (wG (jN (R0.mp hc).1)).trans h
structure A38 where
 t : Option (PV × PV × PV)
 J : q4
 d : Loc
structure P38 (items : List Str) (i : Nat) (a : A38) : Prop where
 k : kq (items.drop i) a.d = kq items []
 l : a.d.length <= i
inductive Q38 (items : List Str) (a : Nat) (μ : q4) : SR' -> Prop where
 | ok (b : A38) (h : kq items [] = .ok b.d) : Q38 items a μ (some (.ok .next, S38 a μ.length (t38 b.t), μ ++ .dict b.d :: b.J))
 | er (x : Exn) (σ' : LE) (J : q4) (h : kq items [] = .error x) : Q38 items a μ (some (.error x, σ', μ ++ J))
theorem Nn {l : LE} {o : Option (PV × PV × PV)} {a D : Nat} {v : PV} : qu (S38 a D (t38 o)) (y5 (qo 38).body) v = some (S38 a D (upd (t38 o) "elt" v)) := by
 induction o <;> kernel_rfl
theorem Gy {v : Str} (h : v.length <= 16000000) : (UC v (some 1) (some (-1))).length <= Pr := Pq (Txt.slice_le v (some 1) (some (-1))) (Pq h (by decide))
theorem LJ {n a : Nat} {items : List Str} {μ : q4} (hm : q5 μ a = some (items.map .str)) (hit : ∀ s ∈ items, zU s) (hlen : items.length <= Pr) :
 Q38 items a μ (zQ (evN ftT (n + 9)) (.list a) (y5 (qo 38).body) (qV (qo 38).body) ((items.map PV.str).length + 1) 0 (S38 a μ.length []) (μ ++ [.dict []])) := by
 rw [PJ]
 refine xu (N := items.length) (S := fun b : A38 => S38 a μ.length (t38 b.t)) (M := fun b => μ ++ .dict b.d :: b.J) (P := P38 items) (Q := Q38 items a μ) (a := ⟨none, [], []⟩) (fun i b hi h => ?_) (fun b h => ⟨?_, .ok b ?_⟩) ⟨rfl, Rj _⟩
 ·have hk := h.k
  rw [S9 hi] at hk
  have hb := hit _ (Rx hi)
  have hg : xo (.list a) i (μ ++ .dict b.d :: b.J) = some (some (.str items[i])) := by rw [qG (qc hm), PY hi]; rfl
  refine ⟨_, _, hg, Nn (l := S38 a a []), ?_⟩
  rcases hb.s with ⟨x, hsp⟩ | ⟨k, v, hsp, hvl, hok⟩
  ·refine .inr (.inl ⟨_, _, _, Em hb.l hsp, .er _ _ _ ?_⟩)
   rw [<- hk]; unfold kq; rw [hsp]; rfl
  ·by_cases h0 : v.length = 0
   ·refine .inr (.inl ⟨_, _, _, CS hb.l hsp h0, .er _ _ _ ?_⟩)
    rw [<- hk]; unfold kq; rw [hsp]; exact if_pos h0
   ·refine .inl ⟨_, ⟨some _, _, _⟩, .inl rfl, IR hb.l hsp h0 hok (Gy hvl) (Pq (Rb h.l) (Pq hi hlen)), ?_, Pq ZO (Rb h.l)⟩
    rw [<- hk]; symm; conv => lhs; unfold kq
    rw [hsp]; exact if_neg h0
 ·rw [qG (qc hm), RC (PK _)]; rfl
 ·have hk := h.k
  rw [TE] at hk
  exact hk.symm
theorem OI : (ftT 38).isSome = true := by kernel_rfl
theorem LY {v : PV} {μ : q4} : jB 38 (qo 38) [v] [] μ = some (⟨qm 38, [("l", v)]⟩, μ) := by kernel_rfl
theorem BM {μ : q4} : (if ((([] : Loc)).map (·.1)).Nodup /\ (qe (μ ++ [.dict []]) μ.length).any (·.isEmpty) = true then some (.ok (.loc μ.length), qj (μ ++ [.dict []]) μ.length (.dict [])) else none : PR PV) = some (.ok (.loc μ.length), μ ++ [.dict []]) := by
 rw [wo]
 refine if_pos ⟨UL, ?_⟩
 unfold qe; rw [ge]; rfl
theorem I3 {n a : Nat} {items : List Str} {μ : q4} (hm : q5 μ a = some (items.map .str)) (hit : ∀ s ∈ items, zU s) (hlen : items.length <= Pr) :
 (∃ e J, kq items [] = .ok e /\ (evN ftT (n + 12)).call 38 [.loc a] [] μ = some (.ok (.loc μ.length), μ ++ .dict e :: J)) \/ (∃ x J, kq items [] = .error x /\ (evN ftT (n + 12)).call 38 [.loc a] [] μ = some (.error { x with here := false }, μ ++ J)) := by
 have hl := LJ (n := n + 1) hm hit hlen
 have hs : zY (.loc a) (μ ++ [.dict []]) = some (.list a, (items.map PV.str).length + 1) := qK (qc hm)
 rw [qX OI LY]
 generalize hR : zQ _ _ _ _ _ _ _ _ = R at hl
 induction hl with
 | ok b hk =>
   have hr : (evN ftT (n + 11)).ex ⟨qm 38, [("l", .loc a)]⟩ (qo 38).body μ = some (.ok (.ret (.loc μ.length)), S38 a μ.length (t38 b.t), μ ++ .dict b.d :: b.J) := by
    exact ql [fV (BM (μ := μ)), fR (hs), fS (hR)] (by kernel_rfl)
   rw [hr]; exact .inl ⟨_, _, hk, rfl⟩
 | er x σ' J hk =>
   have hr : (evN ftT (n + 11)).ex ⟨qm 38, [("l", .loc a)]⟩ (qo 38).body μ = some (.error x, σ', μ ++ J) := by
    exact ql [fV (BM (μ := μ)), fR (hs), fS (hR)] (by kernel_rfl)
   rw [hr]; exact .inr ⟨_, _, hk, rfl⟩
noncomputable def bad (b : Bool) (v : Str) : Bool := v.cps.toList.any (if b = true then ZD else QF)
noncomputable def Oq (b : Bool) : PE := if b = true then 53 else 58
theorem sea {b t : Bool} {v : Str} {μ : q4} (h : bad b v = t) : vm (.val (.ref (Oq b))) (.str v) μ = some (.ok t, μ) := by
 induction b <;> exact h ▸ rfl
theorem Oi : (ftT 88).isSome = true := by kernel_rfl
theorem H1 {o v b : PV} {μ : q4} : jB 88 (qo 88) [o, v] [("name", b)] μ = some (⟨qm 88, [("self", o), ("value", v), ("name", b)]⟩, μ) := by kernel_rfl
section
variable {n : Nat} {o : PV} {v : Str} {b : Bool} {μ : q4}
theorem jx (h : bad b v = false) : (evN ftT (n + 9)).call 88 [o, .str v] [("name", .bool b)] μ = some (.ok (.str v), μ) := by
 have hs := sea (μ := μ) h
 rw [qX Oi H1]
 have hr : ∃ vs, (evN ftT (n + 8)).ex ⟨qm 88, [("self", o), ("value", .str v), ("name", .bool b)]⟩ (qo 88).body μ = some (.ok (.ret (.str v)), vs, μ) := by
  cases b
  ·refine ⟨⟨qm 88, [("self", o), ("value", .str v), ("name", .bool false), ("regex", .val (.ref 58))]⟩, ?_⟩
   exact ql [.d, .d, .d, .d, .d, .d, .d, fT (hs)] (by kernel_rfl)
  ·refine ⟨⟨qm 88, [("self", o), ("value", .str v), ("name", .bool true), ("regex", .val (.ref 53))]⟩, ?_⟩
   exact ql [.d, .d, .d, .d, .d, .d, .d, fT (hs)] (by kernel_rfl)
 obtain ⟨vs, hr⟩ := hr
 rw [hr]; rfl
theorem Zd (h : bad b v = true) : (evN ftT (n + 9)).call 88 [o, .str v] [("name", .bool b)] μ = some (.error { gZ with here := false }, μ) := by
 have hs := sea (μ := μ) h
 rw [qX Oi H1]
 have hr : ∃ vs, (evN ftT (n + 8)).ex ⟨qm 88, [("self", o), ("value", .str v), ("name", .bool b)]⟩ (qo 88).body μ = some (.error gZ, vs, μ) := by
  cases b
  ·refine ⟨⟨qm 88, [("self", o), ("value", .str v), ("name", .bool false), ("regex", .val (.ref 58))]⟩, ?_⟩
   exact ql [.d, .d, .d, .d, .d, .d, .d, fT (hs)] (by kernel_rfl)
  ·refine ⟨⟨qm 88, [("self", o), ("value", .str v), ("name", .bool true), ("regex", .val (.ref 53))]⟩, ?_⟩
   exact ql [.d, .d, .d, .d, .d, .d, .d, fT (hs)] (by kernel_rfl)
 obtain ⟨vs, hr⟩ := hr
 rw [hr]; rfl
end
noncomputable def row (kv : Str × Str) : PV := .tup [.str kv.1, .str kv.2]
structure Tab (μ : q4) (T d H : Nat) (rows : Ps) : Prop where
 i : qw μ (.loc T) = some d
 d : qe μ d = some [(("_headers" : Str), .loc H)]
 h : q5 μ H = some (rows.map row)
section
variable {μ J : q4} {T d H : Nat} {rows : Ps} (t : Tab μ T d H rows)
include t
theorem Tab.app : Tab (μ ++ J) T d H rows := by
 obtain ⟨c, hc, hi⟩ := bnd (show (μ[T]?).bind xA = some d from t.i)
 obtain ⟨c', hc', hd⟩ := bnd t.d
 have h1 := jN (J := J) (R0.mp hc).1
 have h2 := jN (J := J) (R0.mp hc').1
 exact ⟨(congrArg (·.bind xA) h1).trans t.i, (congrArg (·.bind wx) h2).trans t.d, qc t.h⟩
theorem Tab.ok {x : Str} (hx : (("_headers" : Str) == x) = false) : qn μ d x = true := by
 unfold qn; rw [t.d]
 show (!(("_headers" : Str) == x) && true) = true
 rw [hx]; rfl
theorem Tab.attr : Fo (.loc T) "_headers" μ = some (.ok (.loc H), μ) := by
 unfold Fo; rw [t.i, PL, t.d]; rfl
theorem Tab.src : zY (.loc H) μ = some (.list H, rows.length + 1) := by rw [qK t.h, PJ]
end
theorem zq {x : Str} {μ : q4} (h : (Pt x).length <= Pr) : j0 (.str x) "lower" [] μ = some (.ok (.str (Pt x)), μ) := j1 h
theorem jF {t : Bool} {μ : q4} : tru (.bool t) μ = some (.ok t, μ) := rfl
structure KeyOK (k : Str) : Prop where
 l : (Pt k).length <= Pr
 o : Pz (Pt k) = true
structure kW (k : Str) : Prop extends KeyOK k where
 b : bad true (Pt k) = false
noncomputable def MU : Option PV -> Loc
 | none => []
 | some v => [("kv", v)]
noncomputable abbrev vs2 (T : Nat) (x : Str) : Loc := [("self", .loc T), ("name", .str x)]
noncomputable abbrev kL : Expr := IT (qo 126).body
noncomputable abbrev Go (x : Str) (o : Option PV) : LE := ⟨(LE.comp ⟨qm 126, vs2 0 x⟩ (lcN kL)).sc, ("name", .str x) :: MU o⟩
section
variable {n T d H : Nat} {rows : Ps} {nm x : Str} {kv : Str × Str} {μ : q4}
theorem MO (hk : KeyOK kv.1) (hx : Pz x = true) : zW (evN ftT (n + 6)) (Go x (some (row kv))) (qD kL) μ = some (.ok (Pt kv.1 == x), μ) := by
 have h1 := zq (μ := μ) hk.l
 have h2 := w6 (μ := μ) hk.o hx rfl
 exact Qh [.d, .d, fV (h1), fV (h2), fT (jF (t := Pt (RN kv) == x) (μ := μ))] (by kernel_rfl)
theorem IW : (evN ftT (n + 6)).ev (Go x (some (row kv))) (lcE kL) μ = some (.ok (.str kv.2), μ) := by
 exact xO [] (by kernel_rfl)
theorem Ii {o : Option PV} {v : PV} : qu (Go x o) (qt kL) v = some (Go x (some v)) := by
 induction o <;> kernel_rfl
theorem CQ (t : Tab μ T d H rows) (hx : Pz x = true) (hr : rows.length <= Pr) (hrl : ∀ kv ∈ rows, KeyOK kv.1) :
 qF (evN ftT (n + 6)) (LE.comp ⟨qm 126, vs2 T x⟩ (lcN kL)) (lcE kL) (qt kL) (qD kL) (.list H, rows.length + 1) μ = some (.ok (.loc μ.length), μ ++ [ls ((rows.filter fun kv => Pt kv.1 == x).map (·.2))]) := by
 have h := qU (r := evN ftT (n + 6)) (target := qt kL) (elt := lcE kL) (ifs := qD kL) (f := fun kv : Str × Str => .str kv.2) (g := fun kv => Pt kv.1 == x) (Inv := fun σ => ∃ o, σ = Go x o) row (qG t.h)
  (fun σ kv ⟨o, e⟩ hk => ⟨_, e ▸ Ii, ⟨_, rfl⟩, MO (hrl kv hk) hx, fun zz => IW⟩) (rows.length + 1) 0 (LE.comp ⟨qm 126, vs2 T x⟩ (lcN kL)) ⟨none, by kernel_rfl⟩ rfl (Rj _)
 refine (qA h ?_).trans ?_
 ·rw [PJ]; exact Pq (RY _ _) hr
 ·unfold ls; rw [Su]; rfl
theorem Mg : (ftT 126).isSome = true := by kernel_rfl
theorem HX {o v : PV} {μ : q4} : jB 126 (qo 126) [o, v] [] μ = some (⟨qm 126, [("self", o), ("name", v)]⟩, μ) := by kernel_rfl
theorem gb (t : Tab μ T d H rows) (hn : kW nm) (hr : rows.length <= Pr) (hrl : ∀ kv ∈ rows, KeyOK kv.1) :
 (evN ftT (n + 20)).call 126 [.loc T, .str nm] [] μ = some (.ok (.loc μ.length), μ ++ [ls ((rows.filter fun kv => Pt kv.1 == Pt nm).map (·.2))]) := by
 have h1 := zq (μ := μ) hn.l
 have hi := t.i
 have ho : qn μ d "_convert_string_type" = true := t.ok (by decide)
 have h88 := jx (n := n + 8) (o := .loc T) (μ := μ) hn.b
 have ha := t.attr
 have hs := t.src
 have hc := CQ (n := n + 11) t hn.o hr hrl
 rw [qX Mg HX]
 have hr : (evN ftT (n + 19)).ex ⟨qm 126, vs2 T nm⟩ (qo 126).body μ = some (.ok (.ret (.loc μ.length)), ⟨qm 126, vs2 T (Pt nm)⟩, μ ++ [ls ((rows.filter fun kv => Pt kv.1 == Pt nm).map (·.2))]) := by
  exact ql [fI (hi), .c ho, fV (h1), fV (h88), fV (ha), fR (hs), fV (hc)] (by kernel_rfl)
 rw [hr]; rfl
end
noncomputable def first (rows : Ps) (x : Str) : Option Str := (rows.find? fun kv => Pt kv.1 == x).map fun kv => kv.2
noncomputable def ukv : Option (Str × Str) -> Loc
 | none => []
 | some kv => [("k", .str kv.1), ("v", .str kv.2)]
noncomputable abbrev wR (T : Nat) (x : Str) (dv : PV) (o : Option (Str × Str)) : LE := ⟨qm 134, ("self", .loc T) :: ("name", .str x) :: ("default", dv) :: ukv o⟩
section
variable {n T d H : Nat} {rows : Ps} {nm x : Str} {kv : Str × Str} {μ : q4} {dv : PV}
theorem Lj (hk : KeyOK kv.1) (hx : Pz x = true) (h : (Pt kv.1 == x) = true) : (evN ftT (n + 9)).ex (wR T x dv (some kv)) (qV (qo 134).body) μ = some (.ok (.ret (.str kv.2)), wR T x dv (some kv), μ) := by
 have h1 := zq (μ := μ) hk.l
 have h2 := w6 (μ := μ) hk.o hx h
 exact ql [fV (h1), fV (h2)] (by kernel_rfl)
theorem Iy (hk : KeyOK kv.1) (hx : Pz x = true) (h : (Pt kv.1 == x) = false) : (evN ftT (n + 9)).ex (wR T x dv (some kv)) (qV (qo 134).body) μ = some (.ok .next, wR T x dv (some kv), μ) := by
 have h1 := zq (μ := μ) hk.l
 have h2 := w6 (μ := μ) hk.o hx h
 exact ql [fV (h1), fV (h2)] (by kernel_rfl)
theorem Lz {o : Option (Str × Str)} : qu (wR T x dv o) (y5 (qo 134).body) (row kv) = some (wR T x dv (some kv)) := by
 induction o <;> kernel_rfl
theorem Yr {rows : Ps} : first (kv :: rows) x = if (Pt kv.1 == x) = true then some kv.2 else first rows x := by
 unfold first
 rw [As]
 cases Pt kv.1 == x <;> rfl
theorem Du (hm : q5 μ H = some (rows.map row)) (hx : Pz x = true) (hrl : ∀ kv ∈ rows, KeyOK kv.1) :
 ∃ o, zQ (evN ftT (n + 9)) (.list H) (y5 (qo 134).body) (qV (qo 134).body) (rows.length + 1) 0 (wR T x dv none) μ = some (.ok ((first rows x).elim .next fun v => .ret (.str v)), wR T x dv o, μ) := by
 refine xu (N := rows.length) (S := wR T x dv) (M := fun zz => μ) (P := fun i zz => first (rows.drop i) x = first rows x) (Q := fun R => ∃ o, R = some (.ok ((first rows x).elim .next fun v => .ret (.str v)), wR T x dv o, μ)) (fun i o hi h => ?_) (fun o h => ⟨?_, o, ?_⟩) rfl
 ·rw [S9 hi, Yr] at h
  have hk := hrl _ (Rx hi)
  refine ⟨row rows[i], _, ?_, Lz, ?_⟩
  ·rw [qG hm, PY hi]; rfl
  ·induction hq : (Pt rows[i].1 == x) with
   | true =>
     rw [hq] at h
     exact .inr (.inr ⟨_, _, _, Lj hk hx hq, _, by rw [<- h]; rfl⟩)
   | false =>
     rw [hq] at h
     exact .inl ⟨_, _, .inl rfl, Iy hk hx hq, h⟩
 ·rw [qG hm, RC (PK _)]; rfl
 ·rw [TE] at h
  rw [<- h]; rfl
theorem EV : (ftT 134).isSome = true := by kernel_rfl
theorem Eh {o v : PV} {μ : q4} : jB 134 (qo 134) [o, v] [] μ = some (⟨qm 134, [("self", o), ("name", v), ("default", .none)]⟩, μ) := by kernel_rfl
theorem Df {o v d : PV} {μ : q4} : jB 134 (qo 134) [o, v, d] [] μ = some (⟨qm 134, [("self", o), ("name", v), ("default", d)]⟩, μ) := by kernel_rfl
theorem WH (t : Tab μ T d H rows) (hn : kW nm) (hrl : ∀ kv ∈ rows, KeyOK kv.1) :
 zX ((evN ftT (n + 19)).ex (wR T nm dv none) (qo 134).body μ) = some (.ok ((first rows (Pt nm)).elim dv .str), μ) := by
 have h1 := zq (μ := μ) hn.l
 have hi := t.i
 have ho : qn μ d "_convert_string_type" = true := t.ok (by decide)
 have h88 := jx (n := n + 8) (o := .loc T) (μ := μ) hn.b
 have ha := t.attr
 have hs := t.src
 obtain ⟨o, hl⟩ := Du (n := n + 9) (T := T) (dv := dv) t.h hn.o hrl
 induction hf : first rows (Pt nm) with
 | none =>
   rw [hf] at hl
   have hr : (evN ftT (n + 19)).ex (wR T nm dv none) (qo 134).body μ = some (.ok (.ret dv), wR T (Pt nm) dv o, μ) := by
    exact ql [fI (hi), .c ho, fV (h1), fV (h88), fV (ha), fR (hs), fS (hl)] (by kernel_rfl)
   rw [hr]; rfl
 | some v =>
   rw [hf] at hl
   have hr : (evN ftT (n + 19)).ex (wR T nm dv none) (qo 134).body μ = some (.ok (.ret (.str v)), wR T (Pt nm) dv o, μ) := by
    exact ql [fI (hi), .c ho, fV (h1), fV (h88), fV (ha), fR (hs), fS (hl)] (by kernel_rfl)
   rw [hr]; rfl
theorem Xt (t : Tab μ T d H rows) (hn : kW nm) (hrl : ∀ kv ∈ rows, KeyOK kv.1) : (evN ftT (n + 20)).call 134 [.loc T, .str nm] [] μ = some (.ok ((first rows (Pt nm)).elim .none .str), μ) := (qX EV Eh).trans (WH t hn hrl)
theorem FZ (t : Tab μ T d H rows) (hn : kW nm) (hrl : ∀ kv ∈ rows, KeyOK kv.1) : (evN ftT (n + 20)).call 134 [.loc T, .str nm, dv] [] μ = some (.ok ((first rows (Pt nm)).elim dv .str), μ) := (qX EV Df).trans (WH t hn hrl)
theorem MJ : (ftT 121).isSome = true := by kernel_rfl
theorem I8 {o v : PV} {μ : q4} : jB 121 (qo 121) [o, v] [] μ = some (⟨qm 121, [("self", o), ("name", v)]⟩, μ) := by kernel_rfl
theorem Dn (t : Tab μ T d H rows) (hn : kW nm) (hrl : ∀ kv ∈ rows, KeyOK kv.1) : (evN ftT (n + 26)).call 121 [.loc T, .str nm] [] μ = some (.ok (.bool (first rows (Pt nm)).isSome), μ) := by
 have hi := t.i
 have ho : qn μ d "get" = true := t.ok (by decide)
 have hg := Xt (n := n + 2) t hn hrl
 rw [qX MJ I8]
 have hr : (evN ftT (n + 25)).ex (⟨qm 121, vs2 T nm⟩) (qo 121).body μ = some (.ok (.ret (.bool (first rows (Pt nm)).isSome)), ⟨qm 121, vs2 T nm⟩, μ) := by
  induction hf : first rows (Pt nm) with
  | none => rw [hf] at hg; exact ql [fI (hi), .c ho, fV (hg)] (by kernel_rfl)
  | some v => rw [hf] at hg; exact ql [fI (hi), .c ho, fV (hg)] (by kernel_rfl)
 rw [hr]; rfl
end
theorem vY {μ : q4} {H : Nat} {l : List PV} (h : q5 μ H = some l) : μ[H]? = some (.list l) := by
 obtain ⟨c, hc, hl⟩ := bnd h
 rw [hc]
 induction c <;> first | exact no hl | exact congrArg _ (congrArg _ (qk hl))
theorem w9 {μ : q4} {D a : Nat} {c : q8} (h : a ≠ D) : (qj μ D c)[a]? = μ[a]? := AL (SO h)
theorem vz {μ : q4} {D : Nat} {c : q8} (h : D < μ.length) : (qj μ D c)[D]? = some c := by
 unfold qj; rw [Ai h]
theorem gC {μ : q4} {D : Nat} {c : q8} : (qj μ D c).length = μ.length := List.length_set
theorem yC {μ J : q4} {D : Nat} {c : q8} (h : D < μ.length) : qj (μ ++ J) D c = qj μ D c ++ J := List.set_append_left _ _ h
theorem K9 {μ : q4} {D : Nat} {c c' : q8} : qj (qj μ D c) D c' = qj μ D c' := List.set_set ..
noncomputable abbrev rw' (rows : Ps) : q8 := .list (rows.map row)
section
variable {μ J : q4} {T d H : Nat} {rows rows' : Ps} (t : Tab μ T d H rows)
include t
theorem Tab.lt : H < μ.length := (R0.mp (vY t.h)).1
theorem Tab.set : Tab (qj μ H (rw' rows')) T d H rows' := by
 have h := vY t.h
 refine ⟨?_, ?_, ?_⟩
 ·have hT : T ≠ H := fun e => by
   have hi : (μ[T]?).bind xA = some d := t.i
   rw [e, h] at hi; exact no hi
  exact (congrArg (·.bind xA) (w9 hT)).trans t.i
 ·have hd : d ≠ H := fun e => by
   have hd : (μ[d]?).bind wx = _ := t.d
   rw [e, h] at hd; exact no hd
  exact (congrArg (·.bind wx) (w9 hd)).trans t.d
 ·exact congrArg (·.bind kh) (vz t.lt)
end
noncomputable def qd (rows : Ps) (x : Str) : Ps := rows.filter fun kv => !(Pt kv.1 == x)
theorem zO {rows : Ps} {x : Str} : (qd rows x).length <= rows.length := RY _ _
noncomputable abbrev kS : Expr := Ou 1 (qo 107).body
noncomputable abbrev F2 (x : Str) (o : Option PV) : LE := ⟨(LE.comp ⟨qm 107, vs2 0 x⟩ (lcN kS)).sc, ("name", .str x) :: MU o⟩
theorem FM {a b : Str} {μ : q4} {t : Bool} (ha : Pz a = true) (hb : Pz b = true) (h : (!(a == b)) = t) : qY .NotEq (.str a) (.str b) μ = some (.ok (.bool t), μ) := by
 show (peq μ (.str a) (.str b)).map _ = _
 rw [Vf ha hb, <- h]; rfl
section
variable {n T d H : Nat} {rows : Ps} {nm x : Str} {kv : Str × Str} {μ : q4}
theorem Nt (hk : KeyOK kv.1) (hx : Pz x = true) : zW (evN ftT (n + 6)) (F2 x (some (row kv))) (qD kS) μ = some (.ok (!(Pt kv.1 == x)), μ) := by
 have h1 := zq (μ := μ) hk.l
 have h2 := FM (μ := μ) hk.o hx rfl
 exact Qh [.d, .d, fV (h1), fV (h2), fT (jF (t := !Pt (RN kv) == x) (μ := μ))] (by kernel_rfl)
theorem Lk : (evN ftT (n + 6)).ev (F2 x (some (row kv))) (lcE kS) μ = some (.ok (row kv), μ) := by
 exact xO [] (by kernel_rfl)
theorem Ih {o : Option PV} {v : PV} : qu (F2 x o) (qt kS) v = some (F2 x (some v)) := by
 induction o <;> kernel_rfl
theorem Ef (t : Tab μ T d H rows) (hx : Pz x = true) (hr : rows.length <= Pr) (hrl : ∀ kv ∈ rows, KeyOK kv.1) :
 qF (evN ftT (n + 6)) (LE.comp ⟨qm 107, vs2 T x⟩ (lcN kS)) (lcE kS) (qt kS) (qD kS) (.list H, rows.length + 1) μ = some (.ok (.loc μ.length), μ ++ [rw' (qd rows x)]) := by
 have h := qU (r := evN ftT (n + 6)) (target := qt kS) (elt := lcE kS) (ifs := qD kS) (f := row) (g := fun kv => !(Pt kv.1 == x)) (Inv := fun σ => ∃ o, σ = F2 x o) row (qG t.h)
  (fun σ kv ⟨o, e⟩ hk => ⟨_, e ▸ Ih, ⟨_, rfl⟩, Nt (hrl kv hk) hx, fun zz => Lk⟩) (rows.length + 1) 0 (LE.comp ⟨qm 107, vs2 T x⟩ (lcN kS)) ⟨none, by kernel_rfl⟩ rfl (Rj _)
 refine (qA h ?_).trans rfl
 rw [PJ]; exact Pq zO hr
theorem NY {μ : q4} {m : Nat} {l l' : List PV} (h : q5 μ H = some l) (h' : q5 μ m = some l') (hne : H ≠ m) (hl : l.length + l'.length <= Pr) : WK (.loc H) (.loc m) μ = some (.ok .none, qj μ H (.list l')) := by
 show (q5 μ H).bind _ = _
 rw [h, PL, h']
 exact if_neg fun h => h.elim hne (Sh.mpr hl)
theorem Nz : (ftT 107).isSome = true := by kernel_rfl
theorem HJ {o v : PV} {μ : q4} : jB 107 (qo 107) [o, v] [] μ = some (⟨qm 107, [("self", o), ("name", v)]⟩, μ) := by kernel_rfl
theorem Jw (t : Tab μ T d H rows) (hn : kW nm) (hr : rows.length + rows.length <= Pr) (hrl : ∀ kv ∈ rows, KeyOK kv.1) :
 (evN ftT (n + 20)).call 107 [.loc T, .str nm] [] μ = some (.ok .none, qj μ H (rw' (qd rows (Pt nm))) ++ [rw' (qd rows (Pt nm))]) := by
 have h1 := zq (μ := μ) hn.l
 have hi := t.i
 have ho : qn μ d "_convert_string_type" = true := t.ok (by decide)
 have h88 := jx (n := n + 8) (o := .loc T) (μ := μ) hn.b
 have ha := t.attr
 have hs := t.src
 have hc := Ef (n := n + 11) t hn.o (Pq (Uu ..) hr) hrl
 have t' := t.app (J := [rw' (qd rows (Pt nm))])
 have ha' := t'.attr
 have hset := NY t'.h q6 (RQ t.lt) (by rw [PJ, PJ]; exact Pq (So zO _) hr)
 rw [yC t.lt] at hset
 rw [qX Nz HJ]
 have hr : (evN ftT (n + 19)).ex ⟨qm 107, vs2 T nm⟩ (qo 107).body μ = some (.ok .next, ⟨qm 107, vs2 T (Pt nm)⟩, qj μ H (rw' (qd rows (Pt nm))) ++ [rw' (qd rows (Pt nm))]) := by
  exact ql [fI (hi), .c ho, fV (h1), fV (h88), fV (ha), fR (hs), fV (hc), fV (ha'), fV (hset)] (by kernel_rfl)
 rw [hr]; rfl
theorem Nj : (ftT 102).isSome = true := by kernel_rfl
theorem Lr {o v u : PV} {μ : q4} : jB 102 (qo 102) [o, v, u] [] μ = some (⟨qm 102, [("self", o), ("name", v), ("val", u)]⟩, μ) := by kernel_rfl
theorem Z1 {μ : q4} {l : Ps} {v : Str × Str} (h : q5 μ H = some (l.map row)) (hl : l.length + 1 <= Pr) : j0 (.loc H) "append" [row v] μ = some (.ok .none, qj μ H (rw' (l ++ [v]))) := by
 rw [Yk h (by rw [PJ]; exact hl), <- List.map_singleton, <- Rt]
theorem Zx {v : Str} (t : Tab μ T d H rows) (hn : kW nm) (hb : bad true nm = false) (hr : rows.length + rows.length + 1 <= Pr) (hrl : ∀ kv ∈ rows, KeyOK kv.1) :
 (evN ftT (n + 30)).call 102 [.loc T, .str nm, .str v] [] μ = some (if bad false v = true then .error { gZ with here := false } else .ok .none, qj μ H (rw' (if bad false v = true then qd rows (Pt nm) else qd rows (Pt nm) ++ [(nm, v)])) ++ [rw' (qd rows (Pt nm))]) := by
 have hi := t.i
 have h107 := Jw (n := n + 8) t hn (RL hr) hrl
 have t1 := (t.set (rows' := qd rows (Pt nm))).app (J := [rw' (qd rows (Pt nm))])
 have hle : (qd rows (Pt nm)).length + 1 <= Pr := Pq (Rb (Pq zO (Uu ..))) hr
 have hlt : H < (qj μ H (rw' (qd rows (Pt nm)))).length := by rw [gC]; exact t.lt
 rw [qX Nj Lr]
 generalize hdr : qd rows (Pt nm) = dr at *
 generalize hμ : qj μ H (rw' dr) ++ [rw' dr] = μ1 at *
 have ha := t1.attr
 have hi1 := t1.i
 have hl1 := jg t1.h
 have hl2 := je t1.h
 have ho : qn μ1 d "_convert_string_type" = true := t1.ok (by decide)
 have h88 := jx (n := n + 16) (o := .loc T) (μ := μ1) hb
 induction hv : bad false v with
 | true =>
   have h88v := Zd (n := n + 16) (o := .loc T) (μ := μ1) hv
   have hr : (evN ftT (n + 29)).ex ⟨qm 102, [("self", .loc T), ("name", .str nm), ("val", .str v)]⟩ (qo 102).body μ = some (.error { gZ with here := false }, ⟨qm 102, [("self", .loc T), ("name", .str nm), ("val", .str v)]⟩, μ1) := by
    exact ql [fI (hi), fV (h107), fV (ha), fI (hl1), fL (hl2), fI (hi1), .c ho, fV (h88), fI (hi1), .c ho, fV (h88v)] (by kernel_rfl)
   rw [hr, <- hμ]; rfl
 | false =>
   have h88v := jx (n := n + 16) (o := .loc T) (μ := μ1) hv
   have happ := Z1 (v := (nm, v)) t1.h hle
   have hr : (evN ftT (n + 29)).ex ⟨qm 102, [("self", .loc T), ("name", .str nm), ("val", .str v)]⟩ (qo 102).body μ = some (.ok .next, ⟨qm 102, [("self", .loc T), ("name", .str nm), ("val", .str v)]⟩, qj μ1 H (rw' (dr ++ [(nm, v)]))) := by
    exact ql [fI (hi), fV (h107), fV (ha), fI (hl1), fL (hl2), fI (hi1), .c ho, fV (h88), fI (hi1), .c ho, fV (h88v), fV (happ)] (by kernel_rfl)
   rw [hr, <- hμ, yC hlt, K9]; rfl
end
section
variable {n T d H : Nat} {rows : Ps} {nm v : Str} {μ : q4}
noncomputable abbrev fu : Exn := { gZ with here := false }
theorem Wf (t : Tab μ T d H rows) (hn : kW nm) (hb : bad true nm = false) (hr : rows.length + 1 <= Pr) (hrl : ∀ kv ∈ rows, KeyOK kv.1) :
 (evN ftT (n + 30)).call 177 [.loc T, .str nm, .str v] [] μ = (first rows (Pt nm)).elim (if bad false v = true then some (.error fu, μ) else some (.ok (.str v), qj μ H (rw' (rows ++ [(nm, v)])))) fun r => some (.ok (.str r), μ) := by
 have hg := fun n => Xt (n := n) t hn hrl
 induction hf : first rows (Pt nm) with
 | some r =>
   rw [hf] at hg
   exact jv (n := n) (k := 29) [fI (t.i), .c (t.ok rfl : qn μ d (Pv "get") = true), fV (hg (n + 7))] (by kernel_rfl)
 | none =>
   rw [hf] at hg
   show _ = if bad false v = true then _ else _
   induction hv : bad false v with
   | true => exact jv (n := n) (k := 29) [fI (t.i), .c (t.ok rfl : qn μ d (Pv "get") = true), fV (hg (n + 7)), .d, .d, fV (t.attr), fI (jg t.h), fL (je t.h), fI (t.i), .c (t.ok rfl : qn μ d (Pv "_convert_string_type") = true), fV ((fun n => jx (n := n) (o := .loc T) (μ := μ) hb) (n + 15)), fI (t.i), .c (t.ok rfl : qn μ d (Pv "_convert_string_type") = true), fV ((fun n => Zd (n := n) (o := .loc T) (μ := μ) hv) (n + 15))] (by kernel_rfl)
   | false => exact jv (n := n) (k := 29) [fI (t.i), .c (t.ok rfl : qn μ d (Pv "get") = true), fV (hg (n + 7)), .d, .d, fV (t.attr), fI (jg t.h), fL (je t.h), fI (t.i), .c (t.ok rfl : qn μ d (Pv "_convert_string_type") = true), fV ((fun n => jx (n := n) (o := .loc T) (μ := μ) hb) (n + 15)), fI (t.i), .c (t.ok rfl : qn μ d (Pv "_convert_string_type") = true), fV ((fun n => jx (n := n) (o := .loc T) (μ := μ) hv) (n + 15)), fV (Z1 (v := (nm, v)) t.h hr)] (by kernel_rfl)
end
noncomputable def esc (v : Str) : Str := SA (SA v "\\" "\\\\") "\"" "\\\""
noncomputable def ZQ (p v : Str) : Str := PF ++ p ++ "=\"" ++ esc v ++ "\""
noncomputable def YA (p v : Str) : Str := PF ++ p ++ "=" ++ v
noncomputable def fmt (p v : Str) (q : Int) : Str := if v.length = 0 then p else if q ≠ 0 \/ v.cps.toList.any xz = true then ZQ p v else YA p v
theorem NA : (ftT 66).isSome = true := by kernel_rfl
theorem LX {o v : PV} {μ : q4} : jB 66 (qo 66) [o, v] [] μ = some (⟨qm 66, [("param", o), ("value", v), ("quote", .int 1)]⟩, μ) := by kernel_rfl
theorem Ie {o v q : PV} {μ : q4} : jB 66 (qo 66) [o, v, q] [] μ = some (⟨qm 66, [("param", o), ("value", v), ("quote", q)]⟩, μ) := by kernel_rfl
theorem My {x : Str} {μ : q4} (hx : x.length <= 1048576) : jW x "replace" [.str "\\", .str "\\\\"] μ = some (.ok (.str (SA x "\\" "\\\\")), μ) := by
 show (if decide (16000000 < x.length) = true then none else if (decide (x.length <= 1048576)) = true then _ else _) = _
 rw [if_neg (by rw [decide_eq_true_iff]; lia), if_pos (decide_eq_true hx)]; rfl
theorem Ml {x : Str} {μ : q4} (hx : x.length <= 1048576) : jW x "replace" [.str "\"", .str "\\\""] μ = some (.ok (.str (SA x "\"" "\\\"")), μ) := by
 show (if decide (16000000 < x.length) = true then none else if (decide (x.length <= 1048576)) = true then _ else _) = _
 rw [if_neg (by rw [decide_eq_true_iff]; omega), if_pos (decide_eq_true hx)]; rfl
theorem Pe {k : Nat} {μ : q4} (h : k = 0) : qY .Gt (.int k) (.int 0) μ = some (.ok (.bool false), μ) := by subst h; rfl
theorem Iw {k : Nat} {μ : q4} (h : k ≠ 0) : qY .Gt (.int k) (.int 0) μ = some (.ok (.bool true), μ) := by
 show some (Rs (PV.bool (decide ((k : Int) > 0))), μ) = _
 rw [decide_eq_true (by lia)]
theorem Gs {q : Int} {μ : q4} (h : q = 0) : tru (.int q) μ = some (.ok false, μ) := by subst h; rfl
theorem Ip {q : Int} {μ : q4} (h : q ≠ 0) : tru (.int q) μ = some (.ok true, μ) := by
 show some (Rs (decide (q ≠ 0)), μ) = _
 rw [decide_eq_true h]
theorem Hr {t : Bool} {v : Str} {μ : q4} (h : v.cps.toList.any xz = t) : vm (.val (.ref 48)) (.str v) μ = some (.ok t, μ) := h ▸ rfl
structure yD (p v : Str) : Prop where
 lp : p.length <= 1000000
 lv : v.length <= 1048576
 lr : (SA v "\\" "\\\\").length <= 1048576
 le : (esc v).length <= 3000000
section
variable {n : Nat} {p v : Str} {q : Int} {μ : q4}
theorem Zv (h : yD p v) : (ZQ p v).length <= Pr /\ (YA p v).length <= Pr := by
 have e24 : Pr = 16777216 := by decide
 have h1 := h.lp
 have h2 := h.lv
 have h3 := h.le
 unfold ZQ YA
 rw [PN, PN, PN, PN, PN, PN, PN, e24]
 exact ⟨by show 0 + _ + 2 + _ + 1 <= _; lia, by show 0 + _ + 1 + _ <= _; lia⟩
theorem Xs {a b : Str} (h : (a ++ b).length <= Pr) : a.length <= Pr := by rw [PN] at h; exact Pq (Rd ..) h
theorem Q0 {a b : Str} (h : (a ++ b).length <= Pr) : a.length + b.length <= Pr := by rw [<- PN]; exact h
theorem Lv (h : yD p v) (h0 : v.length ≠ 0) (hq : q ≠ 0 \/ v.cps.toList.any xz = true) :
 zX ((evN ftT (n + 14)).ex ⟨qm 66, [("param", .str p), ("value", .str v), ("quote", .int q)]⟩ (qo 66).body μ) = some (.ok (.str (ZQ p v)), μ) := by
 have l4 := (Zv h).1
 have c5 := Q0 l4
 have l3 := Xs l4
 have c4 := Q0 l3
 have l2 := Xs l3
 have c3 := Q0 l2
 have c2 := Q0 (Xs l2)
 have r1 := My (μ := μ) h.lv
 have r2 := Ml (μ := μ) h.lr
 have hr : (evN ftT (n + 14)).ex ⟨qm 66, [("param", .str p), ("value", .str v), ("quote", .int q)]⟩ (qo 66).body μ = some (.ok (.ret (.str (ZQ p v))), ⟨qm 66, [("param", .str p), ("value", .str (esc v)), ("quote", .int q)]⟩, μ) := by
  by_cases hz : q = 0
  ·have hs := Hr (μ := μ) (hq.resolve_left (not_not_intro hz))
   exact ql [.d, .d, .d, .d, .d, fV (Iw (μ := μ) h0), .d, fT (Gs (μ := μ) hz), fT (hs), fV (r1), fV (r2), .c c2, .c c3, .c c4, .c c5, fV (j1 (μ := μ) l4)] (by kernel_rfl)
  ·exact ql [.d, .d, .d, .d, .d, fV (Iw (μ := μ) h0), .d, fT (Ip (μ := μ) hz), fV (r1), fV (r2), .c c2, .c c3, .c c4, .c c5, fV (j1 (μ := μ) l4)] (by kernel_rfl)
 rw [hr]; rfl
theorem Iq (h : yD p v) (h0 : v.length ≠ 0) (hz : q = 0) (hs : v.cps.toList.any xz = false) :
 zX ((evN ftT (n + 14)).ex ⟨qm 66, [("param", .str p), ("value", .str v), ("quote", .int q)]⟩ (qo 66).body μ) = some (.ok (.str (YA p v)), μ) := by
 have l3 := (Zv h).2
 have c4 := Q0 l3
 have l2 := Xs l3
 have c3 := Q0 l2
 have c2 := Q0 (Xs l2)
 have hs := Hr (μ := μ) hs
 have hr : (evN ftT (n + 14)).ex ⟨qm 66, [("param", .str p), ("value", .str v), ("quote", .int q)]⟩ (qo 66).body μ = some (.ok (.ret (.str (YA p v))), ⟨qm 66, [("param", .str p), ("value", .str v), ("quote", .int q)]⟩, μ) := by
  exact ql [.d, .d, .d, .d, .d, fV (Iw (μ := μ) h0), .d, fT (Gs (μ := μ) hz), fT (hs), .c c2, .c c3, .c c4, fV (j1 (μ := μ) l3)] (by kernel_rfl)
 rw [hr]; rfl
theorem Lf (h0 : v.length = 0) : zX ((evN ftT (n + 14)).ex ⟨qm 66, [("param", .str p), ("value", .str v), ("quote", .int q)]⟩ (qo 66).body μ) = some (.ok (.str p), μ) := by
 have hr : (evN ftT (n + 14)).ex ⟨qm 66, [("param", .str p), ("value", .str v), ("quote", .int q)]⟩ (qo 66).body μ = some (.ok (.ret (.str p)), ⟨qm 66, [("param", .str p), ("value", .str v), ("quote", .int q)]⟩, μ) := by
  exact ql [.d, .d, .d, .d, .d, fV (Pe (μ := μ) h0)] (by kernel_rfl)
 rw [hr]; rfl
theorem GY (h : yD p v) : zX ((evN ftT (n + 14)).ex ⟨qm 66, [("param", .str p), ("value", .str v), ("quote", .int q)]⟩ (qo 66).body μ) = some (.ok (.str (fmt p v q)), μ) := by
 unfold fmt
 by_cases h0 : v.length = 0
 ·rw [if_pos h0]; exact Lf h0
 ·rw [if_neg h0]
  by_cases hq : q ≠ 0 \/ v.cps.toList.any xz = true
  ·rw [if_pos hq]; exact Lv h h0 hq
  ·rw [if_neg hq]; exact Iq h h0 (Decidable.not_not.mp fun e => hq (.inl e)) (Bool.eq_false_iff.mpr fun e => hq (.inr e))
theorem DJ (h : yD p v) : (evN ftT (n + 15)).call 66 [.str p, .str v] [] μ = some (.ok (.str (fmt p v 1)), μ) := (qX NA LX).trans (GY h)
theorem Ee (h : yD p v) : (evN ftT (n + 15)).call 66 [.str p, .str v, .int q] [] μ = some (.ok (.str (fmt p v q)), μ) := (qX NA Ie).trans (GY h)
end
theorem Lc {l : List Str} : ∀ {d : Loc} {x : Exn}, kq l d = .error x -> x = wK \/ x = xI := by
 induction l with
 | nil => intro d x h; exact nomatch h
 | cons s l ih =>
   intro d x h
   unfold kq at h
   induction hq : two (sp s) with
   | none => rw [hq] at h; exact .inl (by injection h with h; exact h.symm)
   | some q =>
     rw [hq] at h
     by_cases h0 : q.2.length = 0
     ·have h : (Except.error xI : Except Exn (Loc)) = .error x := (if_pos h0).symm.trans h
      exact .inr (by injection h with h; exact h.symm)
     ·exact ih (show kq l (qR d q.1 (.str (unq q.2))) = .error x from (if_neg h0).symm.trans h)
noncomputable def pairs (e : Loc) : List PV := e.map fun kv => .tup [.str kv.1, kv.2]
def Dx (items : List Str) : Prop := ∀ e, kq items [] = .ok e -> (e.all fun kv => decide (kv.1.length <= Pr)) = true /\ e.length <= Pr
theorem GT {μ J : q4} {e : Loc} (h1 : (e.all fun kv => decide (kv.1.length <= Pr)) = true) (h2 : e.length <= Pr) : JF (.loc μ.length) (μ ++ .dict e :: J) = some (.ok (.loc (μ ++ .dict e :: J).length), μ ++ .dict e :: J ++ [.list (pairs e)]) := by
 show (((μ ++ .dict e :: J)[μ.length]?).bind wx).bind _ = _
 rw [y7]
 refine (if_pos h1).trans (ji ?_)
 rw [PJ]; exact h2
section
variable {n a : Nat} {items : List Str} {μ : q4}
theorem Vk (hm : q5 μ a = some (items.map .str)) (hit : ∀ s ∈ items, zU s) (hlen : items.length <= Pr) (hk : Dx items) :
 (∃ e J, kq items [] = .ok e /\ (evN ftT (n + 20)).call 208 [.loc a] [] μ = some (.ok (.loc (μ ++ J).length), μ ++ J ++ [.list (pairs e)])) \/ (∃ x J, kq items [] = .error x /\ (evN ftT (n + 20)).call 208 [.loc a] [] μ = some (.ok (if x.cls = "ValueError" then .none else .int 0), μ ++ J)) := by
 rcases I3 (n := n + 3) hm hit hlen with ⟨e, J, h1, h2⟩ | ⟨x, J, h1, h2⟩
 ·refine .inl ⟨e, .dict e :: J, h1, ?_⟩
  exact jv (n := n) (k := 19) [fV (h2), fV ((GT (hk e h1).1 (hk e h1).2 : JF (PV.loc (Sp μ)) (μ ++ q8.dict e :: J) = some (Rs (PV.loc (Sp (μ ++ q8.dict e :: J))), μ ++ q8.dict e :: J ++ [q8.list (pairs e)])))] (by kernel_rfl)
 ·refine .inr ⟨x, J, h1, ?_⟩
  rcases Lc h1 with rfl | rfl
  ·exact jv (n := n) (k := 19) [fV (h2)] (by kernel_rfl)
  ·exact jv (n := n) (k := 19) [fV (h2)] (by kernel_rfl)
theorem Yu {l : List Str} : vN (l.map .str) = some l := by
 induction l with
 | nil => rfl
 | cons x l ih => show (vN (l.map .str)).map _ = _; rw [ih]; rfl
theorem y9 {x : Str} {l : List Str} (hm : q5 μ a = some (l.map .str)) (h : (Ur x l && decide ((PW x l).length <= Pr)) = true) : j0 (.str x) "join" [.loc a] μ = some (.ok (.str (PW x l)), μ) := by
 show (q5 μ a).bind _ = _
 rw [hm]
 show (vN (l.map .str)).bind _ = _
 rw [Yu]; exact if_pos h
noncomputable def q7 (rows : Ps) (x : Str) : List Str := (rows.filter fun kv => Pt kv.1 == x).map (·.2)
noncomputable def qM : Str := ", "
noncomputable def qz (rs : List Str) : List Str := (qH (PW qM rs)).filter fun s => !(s == Pv "")
structure XY (rs : List Str) : Prop where
 j : (Ur qM rs && decide ((PW qM rs).length <= Pr)) = true
 c : ∀ c ∈ (PW qM rs).cps.toList, c < 0x110000
 l : (PW qM rs).length + 1 <= Pr
 n : (qH (PW qM rs)).length <= Pr
 s : ∀ s ∈ qH (PW qM rs), Pz s = true
noncomputable def Qw (x : Str) : Option PV -> Loc
 | none => []
 | some v => [(x, v)]
noncomputable abbrev kT : Expr := IT (qo 201).body
noncomputable abbrev FE (o : Option PV) : LE := ⟨(LE.comp ⟨qm 201, []⟩ (lcN kT)).sc, Qw "item" o⟩
theorem La {o : Option PV} {v : PV} : qu (FE o) (qt kT) v = some (FE (some v)) := by
 induction o <;> kernel_rfl
theorem Ct : Pz (Pv "") = true := by kernel_rfl
theorem N3 {s : Str} (h : Pz s = true) : zW (evN ftT (n + 6)) (FE (some (.str s))) (qD kT) μ = some (.ok (!(s == Pv "")), μ) := by
 exact Qh [fV ((FM h Ct rfl : qY Uv.NotEq (PV.str s) (PV.str (Pv "")) μ = some (Rs (PV.bool !s == Pv ""), μ))), fT (jF (t := !s == Pv "") (μ := μ))] (by kernel_rfl)
theorem I9 {v : PV} : (evN ftT (n + 6)).ev (FE (some v)) (lcE kT) μ = some (.ok v, μ) := by
 exact xO [] (by kernel_rfl)
theorem En {T : Nat} {nm : Str} {l : List Str} (hm : q5 μ a = some (l.map .str)) (hr : l.length <= Pr) (hs : ∀ s ∈ l, Pz s = true) :
 qF (evN ftT (n + 6)) (LE.comp ⟨qm 201, [("table", .loc T), ("name", .str nm)]⟩ (lcN kT)) (lcE kT) (qt kT) (qD kT) (.list a, (l.map PV.str).length + 1) μ = some (.ok (.loc μ.length), μ ++ [ls (l.filter fun s => !(s == Pv ""))]) := by
 have h := qU (r := evN ftT (n + 6)) (target := qt kT) (elt := lcE kT) (ifs := qD kT) (f := PV.str) (g := fun s => !(s == Pv "")) (Inv := fun σ => ∃ o, σ = FE o) PV.str (qG hm)
  (fun σ s ⟨o, e⟩ hk => ⟨_, e ▸ La, ⟨_, rfl⟩, N3 (hs s hk), fun zz => I9⟩) (l.length + 1) 0 (LE.comp ⟨qm 201, [("table", .loc T), ("name", .str nm)]⟩ (lcN kT)) ⟨none, by kernel_rfl⟩ rfl (Rj _)
 rw [PJ]
 refine (qA h ?_).trans rfl
 rw [PJ]; exact Pq (RY _ _) hr
section
variable {T d H : Nat} {rows : Ps} {nm : Str}
theorem Vc (t : Tab μ T d H rows) (hn : kW nm) (hr : rows.length <= Pr) (hrl : ∀ kv ∈ rows, KeyOK kv.1) (hj : XY (q7 rows (Pt nm))) :
 ∃ J, (evN ftT (n + 40)).call 201 [.loc T, .str nm] [] μ = some (.ok (.loc (μ ++ J).length), μ ++ J ++ [ls (qz (q7 rows (Pt nm)))]) := by
 obtain ⟨L, h43⟩ := Bx (n := n + 24) (μ := μ ++ [ls (q7 rows (Pt nm))]) hj.c hj.l
 refine ⟨[ls (q7 rows (Pt nm))] ++ [.list L] ++ [ls (qH (PW qM (q7 rows (Pt nm))))], ?_⟩
 have e : μ ++ [ls (q7 rows (Pt nm))] ++ [.list L] ++ [ls (qH (PW qM (q7 rows (Pt nm))))] = μ ++ ([ls (q7 rows (Pt nm))] ++ [.list L] ++ [ls (qH (PW qM (q7 rows (Pt nm))))]) := by
  rw [PH, PH, PH]
 have hp : q5 (μ ++ [ls (q7 rows (Pt nm))] ++ [.list L] ++ [ls (qH (PW qM (q7 rows (Pt nm))))]) ((μ ++ [ls (q7 rows (Pt nm))]).length + 1) = some ((qH (PW qM (q7 rows (Pt nm)))).map .str) := by
  have h := q6 (μ := μ ++ [ls (q7 rows (Pt nm))] ++ [.list L]) (l := (qH (PW qM (q7 rows (Pt nm)))).map .str)
  rwa [PB] at h
 have hc := En (n := n + 31) (T := T) (nm := nm) hp hj.n hj.s
 rw [e] at hc hp h43
 exact jv (n := n) (k := 39) [.d, fI (t.i), .c (t.ok rfl : qn μ d (Pv "get_all") = true), fV (gb (n := n + 14) t hn hr hrl), fV ((y9 q6 hj.j : j0 (PV.str qM) (Pv "join") [PV.loc (Sp μ)] (μ ++ [q8.list (Rm PV.str (q7 rows (Pt nm)))]) = some (Rs (PV.str (PW qM (q7 rows (Pt nm)))), μ ++ [q8.list (Rm PV.str (q7 rows (Pt nm)))]))), fV (h43), fR (qK hp), fV (hc)] (by kernel_rfl)
end
end
noncomputable def Pd : Expr -> List Expr
 | .BoolOp _ es _ => es
 | .Compare l _ xs _ => l :: xs
 | .Call f as _ _ => f :: as
 | .BinOp a _ b _ => [a, b]
 | .Tuple es _ _ => es
 | .List es _ => es
 | .IfExp t b o _ => [t, b, o]
 | .Subscript v i _ => [v, i]
 | .Attribute o _ _ => [o]
 | .UnaryOp _ e _ => [e]
 | .ListComp e _ _ _ => [e]
 | _ => []
noncomputable def OT : Sf -> List Expr
 | .If t _ _ _ => [t]
 | .For t i _ _ _ => [t, i]
 | .Assign _ e _ => [e]
 | .Return e _ => e.toList
 | .Expr e _ => [e]
 | .Try _ _ _ _ _ => []
 | _ => []
noncomputable def OV : Sf -> List (List Sf)
 | .If _ b o _ => [b, o]
 | .For _ _ b _ _ => [b]
 | .Try b _ _ _ _ => [b]
 | _ => []
noncomputable def eAt (e : Expr) (p : List Nat) : Expr := p.foldl (fun e i => ((Pd e)[i]?).getD e) e
noncomputable def sE (b : List Sf) (i j : Nat) (p : List Nat) : Expr := eAt ((((b[i]?).map OT).bind fun l => l[j]?).getD (.Constant .none 0 ⟨0, 0, 0, 0⟩)) p
noncomputable def sB (b : List Sf) (i j : Nat) : List Sf := (((b[i]?).map OV).bind fun l => l[j]?).getD []
section
variable {n : Nat} {s k : Str} {q : Int} {μ : q4} {a b : Int}
theorem jz (h : a = b) : qY .Eq (.int a) (.int b) μ = some (.ok (.bool true), μ) := by
 show some (Rs (PV.bool (a == b)), μ) = _
 rw [h, beq_self_eq_true]
theorem qE (h : a ≠ b) : qY .Eq (.int a) (.int b) μ = some (.ok (.bool false), μ) := by
 show some (Rs (PV.bool (a == b)), μ) = _
 rw [beq_eq_false_iff_ne.mpr h]
theorem Qf (h : Pz s = true) : qY .Eq (.str s) (.int b) μ = some (.ok (.bool false), μ) := by
 show (peq μ (.str s) (.int b)).map _ = _
 unfold peq; rw [zF h]; rfl
theorem in_str {x y : Str} (ha : Pz x = true) (hb : Pz y = true) : qY .In (.str x) (.str y) μ = some (.ok (.bool (Uy y x)), μ) := by
 show (pin μ (.str x) (.str y)).map _ = _
 unfold pin; rw [zF ha, zF hb]; rfl
theorem gi (i : Nat) : xo (.str s) i μ = some ((s.cps.toList[i]?).map fun c => .str ⟨#[c]⟩) := by
 show some ((s.cps[i]?).map _) = _
 rw [AE]
noncomputable def Ig : Str := " ()<>@,;:\\\"/[]?="
noncomputable def spc (c : Nat) : Bool := Uy Ig ⟨#[c]⟩
theorem C7 : Pz Ig = true := by kernel_rfl
theorem Ja (h : Pz s = true) {c : Nat} (hc : c ∈ s.cps.toList) : c < 0x110000 := by
 have h : (s.cps.all fun x => decide (x < 0x110000)) = true := h
 rw [<- bA] at h
 exact of_decide_eq_true (PT.mp h c hc)
noncomputable abbrev kR : Expr := sE (qo 235).body 2 0 [1, 0]
noncomputable abbrev Gv (o : Option PV) : LE := ⟨(LE.comp ⟨qm 235, []⟩ (lcN kR)).sc, Qw "sign" o⟩
noncomputable abbrev EK (s : Str) (q : Int) : Loc := [("text", .str s), ("quote", .int q)]
theorem Iu {o : Option PV} {v : PV} : qu (Gv o) (qt kR) v = some (Gv (some v)) := by
 induction o <;> kernel_rfl
theorem NC {c : Nat} (h : c < 0x110000) : zW (evN ftT (n + 6)) (Gv (some (.str ⟨#[c]⟩))) (qD kR) μ = some (.ok (spc c), μ) := by
 have h1 := in_str (μ := μ) (Q1 h) C7
 exact Qh [fV (h1), fT (jF (t := Uy Ig (T7 #[c])) (μ := μ))] (by kernel_rfl)
theorem Ix {v : PV} : (evN ftT (n + 6)).ev (Gv (some v)) (lcE kR) μ = some (.ok v, μ) := by
 exact xO [] (by kernel_rfl)
noncomputable abbrev yV (s : Str) : List Str := (s.cps.toList.filter spc).map ch
theorem zj : s.cps.toList.length = s.length := TM
theorem DI (hs : Pz s = true) (hl : s.length <= Pr) :
 qF (evN ftT (n + 6)) (LE.comp ⟨qm 235, EK s q⟩ (lcN kR)) (lcE kR) (qt kR) (qD kR) (.str s, s.length + 1) μ = some (.ok (.loc μ.length), μ ++ [ls (yV s)]) := by
 have h := qU (r := evN ftT (n + 6)) (target := qt kR) (elt := lcE kR) (ifs := qD kR) (f := fun c => .str ⟨#[c]⟩) (g := spc) (Inv := fun σ => ∃ o, σ = Gv o) (fun c => .str ⟨#[c]⟩) (gi (s := s) (μ := μ))
  (fun σ c ⟨o, e⟩ hk => ⟨_, e ▸ Iu, ⟨_, rfl⟩, NC (Ja hs hk), fun zz => Ix⟩) (s.length + 1) 0 (LE.comp ⟨qm 235, EK s q⟩ (lcN kR)) ⟨none, by kernel_rfl⟩ (by rw [zj]) (Rj _)
 refine (qA h ?_).trans ?_
 ·rw [PJ]; exact Pq (RY _ _) (zj (s := s) ▸ hl)
 ·unfold ls; rw [Su]; rfl
theorem YN {l : List Str} : jj (jK μ 7) (l.map .str) = some (l.map .str) := by
 induction l with
 | nil => rfl
 | cons x l ih => show (jj (jK μ 7) (l.map .str)).map _ = _; rw [ih]; rfl
theorem G1 {l : List Str} (h : ∀ y ∈ l, Pz y = true) : RD (l.map .str) = true /\ Rz (l.map .str) = 0 := by
 induction l with
 | nil => exact ⟨rfl, rfl⟩
 | cons x l ih =>
   have i := ih fun y hy => h y (.tail _ hy)
   exact ⟨show (Pz x && RD (l.map .str)) = true by rw [h x (.head _), i.1]; rfl, show max 0 (Rz (l.map .str)) = 0 by rw [i.2]; rfl⟩
theorem jc {m : Nat} {l : List Str} (hm : q5 μ m = some (l.map .str)) (h : ∀ y ∈ l, Pz y = true) : jd μ (.loc m) = some (.list (l.map .str)) := by
 show (((q5 μ m).bind fun l => (jj (jK μ 7) l).map SV).bind _) = _
 rw [hm]
 show (((jj (jK μ 7) (l.map .str)).map SV).bind _) = _
 rw [YN]
 have i := G1 h
 refine if_pos ?_
 show (RD (l.map .str) && decide (Rz (l.map .str) + 1 <= 64)) = true
 rw [i.1, i.2]; rfl
theorem B2 {l : List Str} {t : Bool} (h : ∀ y ∈ l, Pz y = true) (ht : l.isEmpty = t) : qY .NotEq (.loc μ.length) (.loc (μ ++ [ls l]).length) (μ ++ [ls l] ++ [.list []]) = some (.ok (.bool (!t)), μ ++ [ls l] ++ [.list []]) := by
 have e : jd (μ ++ [ls l] ++ [.list []]) (.loc (μ ++ [ls l]).length) = some (.list []) := jc (l := []) q6 (fun zz q => nomatch q)
 show (peq _ _ _).map _ = _
 unfold peq
 rw [jc (qc q6) h, e, <- ht]
 induction l <;> rfl
noncomputable def rst (s : Str) : Str := Ar s "\t"
theorem FF (h : s.length <= 1000) : jW s "rstrip" [.str "\t"] μ = some (.ok (.str (rst s)), μ) := by
 show (if decide (16000000 < s.length) = true then none else _) = _
 rw [if_neg (by rw [decide_eq_true_iff]; lia)]; rfl
noncomputable def back (s : Str) (q : Int) : PV := if q = 2 then .str s else if s.length = 0 then .none else if q = 1 \/ (s.cps.toList.filter spc).isEmpty = false then .str s else if (rst s).length = 0 then .int 0 else .str (rst s)
noncomputable def QG (s : Str) (q : Int) : q4 := if q = 2 then [] else if s.length = 0 then [] else if q = 1 then [] else [ls (yV s), .list []]
theorem Xw (hs : Pz s = true) : ∀ y ∈ yV s, Pz y = true := by
 intro y hy
 obtain ⟨c, hc, rfl⟩ := Ri.mp hy
 exact Q1 (Ja hs (RM.mp hc).1)
theorem Ka : (evN ftT (n + 20)).call 235 [.none, .int q] [] μ = some (.ok .none, μ) := by
 by_cases h : q = 2
 ·exact jv (n := n) (k := 19) [fV (jz (μ := μ) h)] (by kernel_rfl)
 ·exact jv (n := n) (k := 19) [fV (qE (μ := μ) h)] (by kernel_rfl)
theorem Vs : (evN ftT (n + 20)).call 235 [.int 0, .int q] [] μ = some (.ok (.int 0), μ) := by
 by_cases h : q = 2
 ·exact jv (n := n) (k := 19) [fV (jz (μ := μ) h)] (by kernel_rfl)
 ·exact jv (n := n) (k := 19) [fV (qE (μ := μ) h)] (by kernel_rfl)
theorem IC (hs : Pz s = true) (hl : s.length <= 1000) (h2 : q ≠ 2) (h0 : s.length ≠ 0) (h1 : q ≠ 1) :
 (evN ftT (n + 20)).call 235 [.str s, .int q] [] μ = some (.ok (if (s.cps.toList.filter spc).isEmpty = false then .str s else if (rst s).length = 0 then .int 0 else .str (rst s)), μ ++ [ls (yV s)] ++ [.list []]) := by
 have hc := fun n => DI (n := n) (q := q) (μ := μ) hs (Pq hl (by decide))
 induction he : (s.cps.toList.filter spc).isEmpty with
 | false =>
   have hn := B2 (μ := μ) (t := false) (Xw hs) (by rw [bB]; exact he)
   exact jv (n := n) (k := 19) [fV (qE (μ := μ) h2), fT (jF (t := false) (μ := μ)), fV (Qf (μ := μ) (b := 0) hs), fT (jF (t := false) (μ := μ)), fT (vi (μ := μ) h0), fV (qE (μ := μ) h1), fT (jF (t := false) (μ := μ)), fV (hc (n + 11)), .d, fV (hn), fT (jF (t := !false) (μ := μ ++ [ls (yV s)] ++ [q8.list []]))] (by kernel_rfl)
 | true =>
   have hn := B2 (μ := μ) (t := true) (Xw hs) (by rw [bB]; exact he)
   show _ = some (Rs (if (rst s).length = 0 then _ else _), _)
   by_cases hz : (rst s).length = 0
   ·rw [if_pos hz]
    exact jv (n := n) (k := 19) [fV (qE (μ := μ) h2), fT (jF (t := false) (μ := μ)), fV (Qf (μ := μ) (b := 0) hs), fT (jF (t := false) (μ := μ)), fT (vi (μ := μ) h0), fV (qE (μ := μ) h1), fT (jF (t := false) (μ := μ)), fV (hc (n + 11)), .d, fV (hn), fT (jF (t := !true) (μ := μ ++ [ls (yV s)] ++ [q8.list []])), fV (FF (μ := μ ++ [ls (yV s)] ++ [.list []]) hl), fT (ZP (μ := μ ++ [ls (yV s)] ++ [q8.list []]) hz)] (by kernel_rfl)
   ·rw [if_neg hz]
    exact jv (n := n) (k := 19) [fV (qE (μ := μ) h2), fT (jF (t := false) (μ := μ)), fV (Qf (μ := μ) (b := 0) hs), fT (jF (t := false) (μ := μ)), fT (vi (μ := μ) h0), fV (qE (μ := μ) h1), fT (jF (t := false) (μ := μ)), fV (hc (n + 11)), .d, fV (hn), fT (jF (t := !true) (μ := μ ++ [ls (yV s)] ++ [q8.list []])), fV (FF (μ := μ ++ [ls (yV s)] ++ [.list []]) hl), fT (vi (μ := μ ++ [ls (yV s)] ++ [q8.list []]) hz)] (by kernel_rfl)
theorem Xc (hs : Pz s = true) (hl : s.length <= 1000) : (evN ftT (n + 20)).call 235 [.str s, .int q] [] μ = some (.ok (back s q), μ ++ QG s q) := by
 unfold back QG
 by_cases h2 : q = 2
 ·rw [if_pos h2, if_pos h2, PS]
  exact jv (n := n) (k := 19) [fV (jz (μ := μ) h2)] (by kernel_rfl)
 ·rw [if_neg h2, if_neg h2]
  by_cases h0 : s.length = 0
  ·rw [if_pos h0, if_pos h0, PS]
   exact jv (n := n) (k := 19) [fV (qE (μ := μ) h2), fV (Qf (μ := μ) (b := 0) hs), .d, fT (ZP (μ := μ) h0)] (by kernel_rfl)
  ·rw [if_neg h0, if_neg h0]
   by_cases h1 : q = 1
   ·rw [if_pos (.inl h1), if_pos h1, PS]
    exact jv (n := n) (k := 19) [fV (qE (μ := μ) h2), fV (Qf (μ := μ) (b := 0) hs), .d, fT (vi (μ := μ) h0), fV (jz (μ := μ) h1)] (by kernel_rfl)
   ·rw [if_neg h1, IC hs hl h2 h0 h1, PH]
    induction (s.cps.toList.filter spc).isEmpty with
    | false => rw [if_pos rfl, if_pos (.inr rfl)]; rfl
    | true => rw [if_neg (c := true = false) (by decide), if_neg (c := q = 1 \/ true = false) (fun h => h.elim h1 (by decide))]; rfl
end
theorem jQ {a b : Str} {m j : Nat} (ha : a.length <= m) (hb : b.length <= j) : (a ++ b).length <= m + j := by rw [PN]; exact RP ha hb
theorem fit {a : Nat} {m : Nat} (h : a <= m) (hm : m <= Pr) : a <= Pr := Pq h hm
noncomputable def eqS : Str := "="
noncomputable def DM : Str := "=\""
noncomputable def qS : Str := "\""
noncomputable def qq : Str := "\"\""
section
variable {n : Nat} {s k : Str} {q : Int} {v : PV} {μ : q4}
theorem fh : (evN ftT (n + 15)).call 66 [.str k, .none, v] [] μ = some (.ok (.str k), μ) := by
 exact jv (n := n) (k := 14) [] (by kernel_rfl)
theorem Cr (hk : k.length <= 1000) : (evN ftT (n + 30)).call 220 [.str k, .int 0, .int q] [] μ = some (.ok (.str (k ++ eqS)), μ) := by
 have c1 : (k ++ eqS).length <= Pr := fit (jQ hk (PK 1)) (by decide)
 exact jv (n := n) (k := 29) [.d, .d, fV (jt (μ := μ) c1)] (by kernel_rfl)
theorem E3 (hk : k.length <= 1000) (h2 : q ≠ 2) : (evN ftT (n + 30)).call 220 [.str k, .none, .int q] [] μ = some (.ok (.str k), μ) := by
 by_cases h3 : q = 3
 ·exact jv (n := n) (k := 29) [.d, .d, fV (qE (μ := μ) h2), fV (jz (μ := μ) h3), .d, .d, .d, fV (fh (n := n + 12) (k := k) (v := PV.int q) (μ := μ))] (by kernel_rfl)
 ·exact jv (n := n) (k := 29) [.d, .d, fV (qE (μ := μ) h2), fV (qE (μ := μ) h3), fV (fh (n := n + 12) (k := k) (v := PV.int q) (μ := μ))] (by kernel_rfl)
theorem BE (hs : Pz s = true) (h : yD k s) (h2 : q ≠ 2) (h3 : q ≠ 3) : (evN ftT (n + 30)).call 220 [.str k, .str s, .int q] [] μ = some (.ok (.str (fmt k s q)), μ) := by
 exact jv (n := n) (k := 29) [fV (Qf (μ := μ) (b := 0) hs), fV (qE (μ := μ) h2), fV (qE (μ := μ) h3), fV (Ee (n := n + 12) (q := q) (μ := μ) h)] (by kernel_rfl)
theorem Hx (hs : Pz s = true) (hk : k.length <= 1000) (hl : s.length <= 1000) (hq : q = 2) :
 (evN ftT (n + 30)).call 220 [.str k, .str s, .int q] [] μ = some (.ok (.str (k ++ eqS ++ (if s.length = 0 then qq else s))), μ) := by
 have c1 : (k ++ eqS).length <= Pr := fit (jQ hk (PK 1)) (by decide)
 by_cases h0 : s.length = 0
 ·rw [if_pos h0]
  have c2 : (k ++ eqS ++ qq).length <= Pr := fit (jQ (jQ hk (PK 1)) (PK 2)) (by decide)
  exact jv (n := n) (k := 29) [fV (Qf (μ := μ) (b := 0) hs), fV (jz (μ := μ) hq), fV (jt (μ := μ) c1), fT (ZP (μ := μ) h0), fV (jt (μ := μ) c2)] (by kernel_rfl)
 ·rw [if_neg h0]
  have c2 : (k ++ eqS ++ s).length <= Pr := fit (jQ (jQ hk (PK 1)) hl) (by decide)
  exact jv (n := n) (k := 29) [fV (Qf (μ := μ) (b := 0) hs), fV (jz (μ := μ) hq), fV (jt (μ := μ) c1), fT (vi (μ := μ) h0), fV (jt (μ := μ) c2)] (by kernel_rfl)
noncomputable def bsS : Str := "\\"
noncomputable def bsl (s : Str) : List Str := s.cps.toList.map fun c => bsS ++ ch c
noncomputable abbrev fj : Expr := sE (sB (qo 220).body 2 0) 0 0 [0, 1, 1]
noncomputable abbrev Eu (o : Option PV) : LE := ⟨(LE.comp ⟨qm 220, []⟩ (lcN fj)).sc, Qw "sign" o⟩
theorem Li {o : Option PV} {v : PV} : qu (Eu o) (qt fj) v = some (Eu (some v)) := by
 induction o <;> kernel_rfl
theorem IP {c : Nat} : (evN ftT (n + 6)).ev (Eu (some (.str (ch c)))) (lcE fj) μ = some (.ok (.str (bsS ++ ch c)), μ) := by
 have c1 : (bsS ++ ch c).length <= Pr := fit (jQ (PK 1) (PK 1)) (by decide)
 exact xO [fV (jt (μ := μ) c1)] (by kernel_rfl)
theorem Dc (hl : s.length <= Pr) :
 qF (evN ftT (n + 6)) (LE.comp ⟨qm 220, [("key", .str k), ("text", .str s), ("quote", .int q)]⟩ (lcN fj)) (lcE fj) (qt fj) (qD fj) (.str s, s.length + 1) μ = some (.ok (.loc μ.length), μ ++ [ls (bsl s)]) := by
 have h := qU (r := evN ftT (n + 6)) (target := qt fj) (elt := lcE fj) (ifs := qD fj) (f := fun c => .str (bsS ++ ch c)) (g := fun zz => true) (Inv := fun σ => ∃ o, σ = Eu o) (fun c => .str (ch c)) (gi (s := s) (μ := μ))
  (fun σ c ⟨o, e⟩ hk => ⟨_, e ▸ Li, ⟨_, rfl⟩, by kernel_rfl, fun zz => IP⟩) (s.length + 1) 0 (LE.comp ⟨qm 220, [("key", .str k), ("text", .str s), ("quote", .int q)]⟩ (lcN fj)) ⟨none, by kernel_rfl⟩ (by rw [zj]) (Rj _)
 rw [zy] at h
 refine (qA h ?_).trans ?_
 ·rw [PJ]; exact (zj (s := s) ▸ hl)
 ·unfold ls bsl; rw [Su]; rfl
theorem Kn (hs : Pz s = true) (hk : k.length <= 1000) (hl : s.length <= 1000) (hj : (Ur PF (bsl s) && decide ((PW PF (bsl s)).length <= Pr)) = true) (hjl : (PW PF (bsl s)).length <= 10000) (h3 : q = 3) :
 (evN ftT (n + 30)).call 220 [.str k, .str s, .int q] [] μ = some (.ok (.str (k ++ DM ++ PW PF (bsl s) ++ qS)), μ ++ [ls (bsl s)]) := by
 have c1 : (k ++ DM).length <= Pr := fit (jQ hk (PK 2)) (by decide)
 have c2 : (k ++ DM ++ PW PF (bsl s)).length <= Pr := fit (jQ (jQ hk (PK 2)) hjl) (by decide)
 have c3 : (k ++ DM ++ PW PF (bsl s) ++ qS).length <= Pr := fit (jQ (jQ (jQ hk (PK 2)) hjl) (PK 1)) (by decide)
 have h2 : q ≠ 2 := h3 ▸ (by decide)
 have hc := fun n => Dc (n := n) (k := k) (q := q) (μ := μ) (s := s) (Pq hl (by decide))
 exact jv (n := n) (k := 29) [fV (Qf (μ := μ) (b := 0) hs), fV (qE (μ := μ) h2), fV (jz (μ := μ) h3), .d, .d, .d, fV (jt (μ := μ) c1), fV (hc (n + 17)), fV (y9 (μ := μ ++ [ls (bsl s)]) q6 hj), fV (jt (μ := μ ++ [ls (bsl s)]) c2), fV (jt (μ := μ ++ [ls (bsl s)]) c3)] (by kernel_rfl)
noncomputable def line (kv : Str × Str) : Str := (kv.1 ++ Js) ++ kv.2
noncomputable def gQ : Str := "\r\n"
theorem DP {kv : Str × Str} (h1 : kv.1.length <= 1000000) (h2 : kv.2.length <= 1000000) : kK .Mod (.str KW) (row kv) μ = some (.ok (.str (line kv)), μ) := by
 show (if (true && decide (kv.1.length <= 1000000) && decide (kv.2.length <= 1000000)) = true then yx ((kv.1 ++ Js) ++ kv.2) μ else none) = _
 rw [decide_eq_true h1, decide_eq_true h2]
 exact j1 (fit (jQ (jQ h1 (PK 2)) h2) (by decide))
theorem wf {a b : Nat} {l m : List PV} (ha : q5 μ a = some l) (hb : q5 μ b = some m) (h : (l ++ m).length <= Pr) : kK .Add (.loc a) (.loc b) μ = some (.ok (.loc μ.length), μ ++ [.list (l ++ m)]) := by
 show (q5 μ a).bind _ = _
 rw [ha, PL]
 show (q5 μ b).bind _ = _
 rw [hb]; exact ji h
noncomputable abbrev fx : Expr := sE (qo 163).body 0 0 [1, 0]
noncomputable abbrev D7 (o : Option PV) : LE := ⟨(LE.comp ⟨qm 163, []⟩ (lcN fx)).sc, Qw "kv" o⟩
theorem LV {o : Option PV} {v : PV} : qu (D7 o) (qt fx) v = some (D7 (some v)) := by
 induction o <;> kernel_rfl
theorem L4 {kv : Str × Str} (h1 : kv.1.length <= 1000000) (h2 : kv.2.length <= 1000000) : (evN ftT (n + 6)).ev (D7 (some (row kv))) (lcE fx) μ = some (.ok (.str (line kv)), μ) := by
 exact xO [fV (DP (μ := μ) h1 h2)] (by kernel_rfl)
section
variable {T d H : Nat} {rows : Ps}
noncomputable abbrev xq (rows : Ps) : List Str := rows.map line ++ [PF, PF]
theorem Cc (t : Tab μ T d H rows) (hr : rows.length <= Pr) (hrl : ∀ kv ∈ rows, kv.1.length <= 1000000 /\ kv.2.length <= 1000000) :
 qF (evN ftT (n + 6)) (LE.comp ⟨qm 163, [("self", .loc T)]⟩ (lcN fx)) (lcE fx) (qt fx) (qD fx) (.list H, rows.length + 1) μ = some (.ok (.loc μ.length), μ ++ [ls (rows.map line)]) := by
 have h := qU (r := evN ftT (n + 6)) (target := qt fx) (elt := lcE fx) (ifs := qD fx) (f := fun kv => .str (line kv)) (g := fun zz => true) (Inv := fun σ => ∃ o, σ = D7 o) row (qG t.h)
  (fun σ kv ⟨o, e⟩ hk => ⟨_, e ▸ LV, ⟨_, rfl⟩, by kernel_rfl, fun zz => L4 (hrl kv hk).1 (hrl kv hk).2⟩) (rows.length + 1) 0 (LE.comp ⟨qm 163, [("self", .loc T)]⟩ (lcN fx)) ⟨none, by kernel_rfl⟩ rfl (Rj _)
 rw [zy] at h
 refine (qA h ?_).trans ?_
 ·rw [PJ]; exact hr
 ·unfold ls; rw [Su]; rfl
theorem CB (t : Tab μ T d H rows) (hr : rows.length + 2 <= Pr) (hrl : ∀ kv ∈ rows, kv.1.length <= 1000000 /\ kv.2.length <= 1000000) (hj : (Ur gQ (xq rows) && decide ((PW gQ (xq rows)).length <= Pr)) = true) :
 (evN ftT (n + 20)).call 163 [.loc T] [] μ = some (.ok (.str (PW gQ (xq rows))), μ ++ [ls (rows.map line)] ++ [ls [PF, PF]] ++ [ls (xq rows)]) := by
 have hc := fun n => Cc (n := n) t (RL (RL hr)) hrl
 have ha := wf (μ := μ ++ [ls (rows.map line)] ++ [ls [PF, PF]]) (a := μ.length) (b := (μ ++ [ls (rows.map line)]).length) (qc q6) q6 (by rw [PB, PJ, PJ]; exact hr)
 rw [<- Rt] at ha
 exact jv (n := n) (k := 19) [fV (t.attr), fR (t.src), fV (hc (n + 9)), .d, fV (ha), fV (y9 (μ := μ ++ [ls (rows.map line)] ++ [ls [PF, PF]] ++ [ls (xq rows)]) q6 hj)] (by kernel_rfl)
end
end
noncomputable def qB (e : Str × PV) : PV := .tup [.str e.1, e.2]
def TOK (p : PV) : Prop := p = .none \/ p = .int 0 \/ ∃ s, p = .str s /\ Pz s = true
noncomputable def zg : PV -> Ua
 | .str s => .str s
 | .int i => .int i
 | _ => .none
noncomputable def wI (e : Str × PV) : Ua := .tuple [.str e.1, zg e.2]
def EOK (e : Str × PV) : Prop := Pz e.1 = true /\ TOK e.2
theorem TOK.elim {p : PV} {C : PV -> Prop} (h : TOK p) (a : C .none) (b : C (.int 0)) (c : ∀ s, Pz s = true -> C (.str s)) : C p := by
 rcases h with rfl | rfl | ⟨s, rfl, hs⟩
 ·exact a
 ·exact b
 ·exact c s hs
section
variable {μ : q4} {es : Loc}
theorem Vy {p : PV} (h : TOK p) : jK μ 6 p = some (zg p) := h.elim (C := fun p => jK μ 6 p = some (zg p)) rfl rfl fun zz zz => rfl
theorem YS (h : ∀ e ∈ es, EOK e) : jj (jK μ 7) (es.map qB) = some (es.map wI) := by
 induction es with
 | nil => rfl
 | cons e es ih =>
   show ((((jK μ 6 e.2).bind fun d => some [d]).map fun ds => Ao e.1 :: ds).map Ag).bind (fun d => (jj (jK μ 7) (es.map qB)).map fun ds => d :: ds) = _
   rw [Vy (h e (.head _)).2, ih fun x hx => h x (.tail _ hx)]; rfl
theorem ZR {p : PV} (h : TOK p) : (zg p).canLay0 = true /\ (zg p).depth = 0 := h.elim (C := fun p => (zg p).canLay0 = true /\ (zg p).depth = 0) ⟨rfl, rfl⟩ ⟨rfl, rfl⟩ fun zz hs => ⟨hs, rfl⟩
theorem BU (h : ∀ e ∈ es, EOK e) : RD (es.map wI) = true /\ Rz (es.map wI) <= 1 := by
 induction es with
 | nil => exact ⟨rfl, Rj _⟩
 | cons e es ih =>
   have i := ih fun x hx => h x (.tail _ hx)
   have q := h e (.head _)
   have l := ZR q.2
   refine ⟨show ((Pz e.1 && ((zg e.2).canLay0 && true)) && RD (es.map wI)) = true by rw [q.1, l.1, i.1]; rfl, show max (max 0 (max (zg e.2).depth 0) + 1) (Rz (es.map wI)) <= 1 by rw [l.2]; exact Nat.max_le.mpr ⟨PK _, i.2⟩⟩
theorem zA {a : Nat} (hm : q5 μ a = some (es.map qB)) (h : ∀ e ∈ es, EOK e) : jd μ (.loc a) = some (.list (es.map wI)) := by
 show (((q5 μ a).bind fun l => (jj (jK μ 7) l).map SV).bind _) = _
 rw [hm]
 show (((jj (jK μ 7) (es.map qB)).map SV).bind _) = _
 rw [YS h]
 have i := BU h
 refine if_pos ?_
 show (RD (es.map wI) && decide (Rz (es.map wI) + 1 <= 64)) = true
 rw [i.1, decide_eq_true (Pq (Rb i.2) (by decide))]; rfl
end
noncomputable def ent (s : Str) : Str × PV := match two (sp s) with
 | some q => (q.1, if q.2.length = 0 then .int 0 else .str (unq q.2))
 | none => (((sp s)[0]?).getD s, .none)
structure IOK (s : Str) : Prop where
 ok : zU s
 len : s.length <= 100000
 hd : ∃ t, SF s eqS = (ent s).1 :: t /\ t.length <= 100000
 kl : (ent s).1.length <= 100000
 eo : EOK (ent s)
theorem OR {s x : Str} (h : sp s = [x]) : kq [s] [] = .error wK /\ ent s = (x, .none) := by
 unfold kq ent; rw [h]; exact ⟨rfl, rfl⟩
theorem P8 {s k v : Str} (h : sp s = [k, v]) (h0 : v.length = 0) : kq [s] [] = .error xI /\ ent s = (k, .int 0) := by
 unfold kq ent; rw [h]
 exact ⟨if_pos h0, congrArg (Prod.mk k) (if_pos h0)⟩
theorem Ov {s k v : Str} (h : sp s = [k, v]) (h0 : v.length ≠ 0) : kq [s] [] = .ok [(k, .str (unq v))] /\ ent s = (k, .str (unq v)) := by
 unfold kq ent; rw [h]
 exact ⟨if_neg h0, congrArg (Prod.mk k) (if_neg h0)⟩
section
variable {n a : Nat} {items : List Str} {μ : q4}
theorem fD {x : Exn} (hm : q5 μ a = some (items.map .str)) (hit : ∀ s ∈ items, zU s) (hlen : items.length <= Pr) (hk : kq items [] = .error x) :
 ∃ J, (evN ftT (n + 20)).call 208 [.loc a] [] μ = some (.ok (if x.cls = "ValueError" then .none else .int 0), μ ++ J) := by
 rcases Vk (n := n) hm hit hlen (fun e h => by rw [hk] at h; exact nomatch h) with ⟨e, J, h1, h2⟩ | ⟨y, J, h1, h2⟩
 ·rw [hk] at h1; exact nomatch h1
 ·rw [hk] at h1; injection h1 with h1; exact ⟨J, h1 ▸ h2⟩
theorem ZY {e : Loc} (hm : q5 μ a = some (items.map .str)) (hit : ∀ s ∈ items, zU s) (hlen : items.length <= Pr) (hk : kq items [] = .ok e) (h3 : (e.all fun kv => decide (kv.1.length <= Pr)) = true) (h4 : e.length <= Pr) :
 ∃ J, (evN ftT (n + 20)).call 208 [.loc a] [] μ = some (.ok (.loc (μ ++ J).length), μ ++ J ++ [.list (pairs e)]) := by
 rcases Vk (n := n) hm hit hlen (fun e' h => by rw [hk] at h; injection h with h; exact h ▸ ⟨h3, h4⟩) with ⟨e', J, h1, h2⟩ | ⟨y, J, h1, h2⟩
 ·rw [hk] at h1; injection h1 with h1; exact ⟨J, h1 ▸ h2⟩
 ·rw [hk] at h1; exact nomatch h1
end
section
variable {μ J K : q4} {c : q8} {l k : List PV} {m : Nat} {s : Str}
theorem yh : μ ++ c :: J ++ K = μ ++ c :: (J ++ K) := PH ..
theorem gT : q5 (μ ++ c :: (J ++ [.list l])) (μ ++ c :: J).length = some l := by rw [<- yh]; exact q6
theorem v6 (h : l.length <= Pr) : jr l (μ ++ c :: J) = some (.ok (.loc (μ ++ c :: J).length), μ ++ c :: (J ++ [.list l])) := by rw [ji h, yh]
theorem vV : q5 (μ ++ .list l :: J) μ.length = some l := by unfold q5; rw [y7]; rfl
theorem Gh : μ.length ≠ (μ ++ c :: J).length := by rw [PB]; exact RQ (U7 (Nat.succ_pos _))
theorem Dr (hm : q5 (μ ++ .list l :: J) m = some k) (hne : μ.length ≠ m) (hl : l.length + k.length <= Pr) : j0 (.loc μ.length) "extend" [.loc m] (μ ++ .list l :: J) = some (.ok .none, μ ++ .list (l ++ k) :: J) := by
 show (q5 (μ ++ .list l :: J) μ.length).bind _ = _
 rw [vV, PL]
 refine (if_neg hne).trans ?_
 rw [hm, PL]
 refine (if_pos hl).trans ?_
 unfold qj; rw [SQ _ _ (PK _), Ss]; rfl
theorem FY (hx : s.length <= 100000) (hl : (SF s eqS).length <= Pr) : jW s "split" [.str "="] (μ ++ c :: J) = some (.ok (.loc (μ ++ c :: J).length), μ ++ c :: (J ++ [ls (SF s eqS)])) := by
 show (if decide (16000000 < s.length) = true then none else jr ((SF s eqS).map .str) _) = _
 rw [if_neg (by rw [decide_eq_true_iff]; lia)]
 exact v6 (by rw [PJ]; exact hl)
theorem v9 {v : PV} (h : q5 μ m = some (v :: l)) : za (.loc m) (.int 0) μ = some (.ok v, μ) := by
 show (q5 μ m).bind _ = _
 rw [h]; rfl
theorem Oh {es : Loc} (h : q5 μ m = some (es.map qB)) (ho : ∀ e ∈ es, EOK e) : qY .Eq (.loc m) (.int 0) μ = some (.ok (.bool false), μ) := by
 show (peq μ (.loc m) (.int 0)).map _ = _
 unfold peq; rw [zA h ho]; rfl
end
noncomputable abbrev pl (L : Loc) : q8 := .list (L.map qB)
noncomputable abbrev Xx (T : Nat) (nm : Str) (P : Nat) (tl : Loc) : LE := ⟨qm 215, ("table", .loc T) :: ("name", .str nm) :: ("pairs", .loc P) :: tl⟩
section
variable {n T m : Nat} {nm s : Str} {μ J : q4} {L e : Loc} {tl : Loc}
theorem Ln (hm : q5 (μ ++ pl L :: J) m = some (e.map qB)) (hne : μ.length ≠ m) (hl : L.length + e.length <= Pr) : j0 (.loc μ.length) "extend" [.loc m] (μ ++ pl L :: J) = some (.ok .none, μ ++ pl (L ++ e) :: J) := by
 rw [Dr hm hne (by rw [PJ, PJ]; exact hl), <- Rt]
theorem Jg : qw (μ ++ pl L :: J) (.loc μ.length) = none := jg vV
theorem JS : j3 (μ ++ pl L :: J) (.loc μ.length) = some (L.map qB) := vV
noncomputable abbrev N6 (n T : Nat) (nm s : Str) (μ J : q4) (L : Loc) (tl : Loc) : Prop := ∃ J' v, (evN ftT (n + 40)).ex (Xx T nm μ.length (upd tl "item" (.str s))) (qV (qo 215).body) (μ ++ pl L :: J) = some (.ok .next, Xx T nm μ.length (upd (upd tl "item" (.str s)) "told" v), μ ++ pl (L ++ [ent s]) :: (J ++ J'))
theorem DV (io : IOK s) (hl : L.length + 1 <= Pr) : N6 n T nm s μ J L tl := by
 have h1 : Sg ("item" : Str) (upd tl "item" (.str s)) = some (.str s) := zt
 have h2 : ∀ v, Sg ("told" : Str) (upd (upd tl "item" (.str s)) "told" v) = some v := fun v => zt
 have h3 : ∀ v, Sg ("item" : Str) (upd (upd tl "item" (.str s)) "told" v) = some (.str s) := fun v => (jO (by decide)).trans h1
 have hone : ∀ y ∈ [s], zU y := fun y hy => Pw.mp hy ▸ io.ok
 have p1 : jr [.str s] (μ ++ pl L :: J) = some (.ok (.loc (μ ++ pl L :: J).length), μ ++ pl L :: (J ++ [ls [s]])) := v6 le1
 have p2 : q5 (μ ++ pl L :: (J ++ [ls [s]])) (μ ++ pl L :: J).length = some ([s].map .str) := gT
 obtain ⟨t, hd, ht⟩ := io.hd
 have eo := io.eo
 have kl := io.kl
 have hsp : ∀ J : q4, jW s "split" [.str "="] (μ ++ pl L :: J) = some (.ok (.loc (μ ++ pl L :: J).length), μ ++ pl L :: (J ++ [ls ((ent s).1 :: t)])) := fun J => by
  have h := FY (μ := μ) (c := pl L) (J := J) io.len (by rw [hd]; exact Pq (Rb ht) (by decide))
  rw [hd] at h; exact h
 have hit : ∀ J : q4, za (.loc (μ ++ pl L :: J).length) (.int 0) (μ ++ pl L :: (J ++ [ls ((ent s).1 :: t)])) = some (.ok (.str (ent s).1), μ ++ pl L :: (J ++ [ls ((ent s).1 :: t)])) := fun J => v9 gT
 have hpl : ∀ (v : PV) (J : q4), jr [v] (μ ++ pl L :: J) = some (.ok (.loc (μ ++ pl L :: J).length), μ ++ pl L :: (J ++ [.list [v]])) := fun v J => v6 le1
 have hex : ∀ (e : Str × PV) (J : q4), j0 (.loc μ.length) "extend" [.loc (μ ++ pl L :: J).length] (μ ++ pl L :: (J ++ [.list [qB e]])) = some (.ok .none, μ ++ pl (L ++ [e]) :: (J ++ [.list [qB e]])) := fun e J => Ln (e := [e]) gT Gh hl
 unfold N6
 rcases io.ok.s with ⟨x, hsp1⟩ | ⟨k, v, hsp1, hvl, hok⟩
 ·obtain ⟨q1, q2⟩ := OR hsp1
  obtain ⟨J2, h208⟩ := fD (n := n + 18) p2 hone le1 q1
  rw [yh] at h208
  refine ⟨[ls [s]] ++ J2 ++ [ls ((ent s).1 :: t)] ++ [.list [qB (ent s)]], .none, ?_⟩
  rw [q2] at hsp hit ⊢
  rw [<- PH, <- PH, <- PH]
  exact ql [fG (h1), fV (p1), fV (h208), fI ((Jg : qw (μ ++ pl L :: (J ++ [ls [s]] ++ J2)) (PV.loc (Sp μ)) = none)), fL ((JS : j3 (μ ++ pl L :: (J ++ [ls [s]] ++ J2)) (PV.loc (Sp μ)) = some (Rm qB L))), fG (h2 .none), fG (h3 .none), fV (hsp (J ++ [ls [s]] ++ J2)), fV (hit (J ++ [ls [s]] ++ J2)), fG (h2 .none), fV (hpl (PV.tup [PV.str (RN (x, PV.none)), PV.none]) (J ++ [ls [s]] ++ J2 ++ [ls (RN (x, PV.none) :: t)])), fV (hex ((x, PV.none)) (J ++ [ls [s]] ++ J2 ++ [ls (RN (x, PV.none) :: t)]))] (by kernel_rfl)
 ·by_cases h0 : v.length = 0
  ·obtain ⟨q1, q2⟩ := P8 hsp1 h0
   obtain ⟨J2, h208⟩ := fD (n := n + 18) p2 hone le1 q1
   rw [yh] at h208
   refine ⟨[ls [s]] ++ J2 ++ [ls ((ent s).1 :: t)] ++ [.list [qB (ent s)]], .int 0, ?_⟩
   rw [q2] at hsp hit ⊢
   rw [<- PH, <- PH, <- PH]
   exact ql [fG (h1), fV (p1), fV (h208), fI ((Jg : qw (μ ++ pl L :: (J ++ [ls [s]] ++ J2)) (PV.loc (Sp μ)) = none)), fL ((JS : j3 (μ ++ pl L :: (J ++ [ls [s]] ++ J2)) (PV.loc (Sp μ)) = some (Rm qB L))), fG (h2 (.int 0)), fG (h2 (.int 0)), fG (h3 (.int 0)), fV (hsp (J ++ [ls [s]] ++ J2)), fV (hit (J ++ [ls [s]] ++ J2)), fG (h2 (.int 0)), fV (hpl (PV.tup [PV.str (RN (k, PV.int 0)), PV.int 0]) (J ++ [ls [s]] ++ J2 ++ [ls (RN (k, PV.int 0) :: t)])), fV (hex ((k, PV.int 0)) (J ++ [ls [s]] ++ J2 ++ [ls (RN (k, PV.int 0) :: t)]))] (by kernel_rfl)
  ·obtain ⟨q1, q2⟩ := Ov hsp1 h0
   obtain ⟨J2, h208⟩ := ZY (n := n + 18) p2 hone le1 q1 (by rw [q2] at kl; show (decide (k.length <= Pr) && true) = true; rw [decide_eq_true (Pq kl (by decide))]; rfl) le1
   rw [yh (μ := μ) (c := pl L) (K := J2), yh (μ := μ) (c := pl L)] at h208
   refine ⟨[ls [s]] ++ J2 ++ [.list [qB (ent s)]], .loc (μ ++ pl L :: (J ++ [ls [s]] ++ J2)).length, ?_⟩
   rw [q2] at eo ⊢
   have hq := Oh (μ := μ ++ pl L :: (J ++ [ls [s]] ++ J2 ++ [.list [qB (k, .str (unq v))]])) (es := [(k, .str (unq v))]) gT fun e he => Pw.mp he ▸ eo
   rw [<- PH, <- PH]
   exact ql [fG (h1), fV (p1), fV (h208), fI ((Jg : qw (μ ++ pl L :: (J ++ [ls [s]] ++ J2 ++ [q8.list (pairs [(k, PV.str (unq v))])])) (PV.loc (Sp μ)) = none)), fL ((JS : j3 (μ ++ pl L :: (J ++ [ls [s]] ++ J2 ++ [q8.list (pairs [(k, PV.str (unq v))])])) (PV.loc (Sp μ)) = some (Rm qB L))), fG (h2 (.loc (μ ++ pl L :: (J ++ [ls [s]] ++ J2)).length)), fG (h2 (.loc (μ ++ pl L :: (J ++ [ls [s]] ++ J2)).length)), fV (hq), fG (h2 (.loc (μ ++ pl L :: (J ++ [ls [s]] ++ J2)).length)), fV (hex ((k, PV.str (unq v))) (J ++ [ls [s]] ++ J2))] (by kernel_rfl)
end
structure JP (rows : Ps) (nm : Str) : Prop where
 n : kW nm
 hr : rows.length <= 100000
 k : ∀ kv ∈ rows, KeyOK kv.1
 r : XY (q7 rows (Pt nm))
 hio : ∀ s ∈ qz (q7 rows (Pt nm)), IOK s
 hin : (qz (q7 rows (Pt nm))).length <= 1000000
section
variable {n T : Nat} {nm : Str} {μ J : q4} {c : q8} {items : List Str} {tl : Loc} {v : PV} {j : Nat}
theorem Yb : q5 (μ ++ c :: J) (μ.length + 1 + j) = q5 J j := by
 unfold q5
 rw [A5, Rn (Rd ..), T8, UB 1 j]; rfl
theorem M7 : qu (Xx T nm μ.length tl) (y5 (qo 215).body) v = some (Xx T nm μ.length (upd tl "item" v)) := by kernel_rfl
structure N8 where
 tl : Loc
 J : q4
 L : Loc
structure Oy (items : List Str) (j i : Nat) (a : N8) : Prop where
 l : a.L = (items.take i).map ent
 p : q5 a.J j = some (items.map .str)
theorem CL (hit : ∀ s ∈ items, IOK s) (hl : items.length <= Pr) (hp : q5 J j = some (items.map .str)) :
 ∃ tl' J', zQ (evN ftT (n + 40)) (.list (μ.length + 1 + j)) (y5 (qo 215).body) (qV (qo 215).body) (items.length + 1) 0 (Xx T nm μ.length tl) (μ ++ pl [] :: J) = some (.ok .next, Xx T nm μ.length tl', μ ++ pl (items.map ent) :: J') := by
 refine xu (N := items.length) (S := fun a : N8 => Xx T nm μ.length a.tl) (M := fun a => μ ++ pl a.L :: a.J) (P := Oy items j) (Q := fun R => ∃ tl' J', R = some (.ok .next, Xx T nm μ.length tl', μ ++ pl (items.map ent) :: J')) (a := ⟨tl, J, []⟩) (fun i a hi h => ?_) (fun a h => ⟨?_, a.tl, a.J, ?_⟩) ⟨rfl, hp⟩
 ·have hm := items[i]
  obtain ⟨J', v, ht⟩ := DV (n := n) (T := T) (nm := nm) (μ := μ) (J := a.J) (L := a.L) (tl := a.tl) (hit _ (Rx hi)) (by rw [h.l, PJ, T9]; exact Pq (Rb (TZ ..)) (Pq hi hl))
  refine ⟨.str items[i], _, ?_, M7, .inl ⟨.next, ⟨_, _, _⟩, .inl rfl, ht, ?_, qc h.p⟩⟩
  ·rw [qG (Yb.trans h.p), PY hi]; rfl
  ·rw [h.l, SY hi, Rt]; rfl
 ·rw [qG (Yb.trans h.p), RC (PK _)]; rfl
 ·rw [h.l, bC]
section
variable {d H : Nat} {rows : Ps}
noncomputable abbrev told (rows : Ps) (nm : Str) : Loc := (qz (q7 rows (Pt nm))).map ent
theorem Wg (t : Tab μ T d H rows) (k : JP rows nm) : ∃ J, (evN ftT (n + 60)).call 215 [.loc T, .str nm] [] μ = some (.ok (.loc μ.length), μ ++ pl (told rows nm) :: J) := by
 obtain ⟨J1, h201⟩ := Vc (n := n + 17) (t.app (J := [.list []])) k.n (Pq k.hr (by decide)) k.k k.r
 have hm : q5 (J1 ++ [ls (qz (q7 rows (Pt nm)))]) J1.length = some ((qz (q7 rows (Pt nm))).map .str) := q6
 obtain ⟨tl, J, hl⟩ := CL (n := n + 18) (T := T) (nm := nm) (μ := μ) (tl := []) k.hio (Pq k.hin (by decide)) hm
 have e : (μ ++ [q8.list []] ++ J1).length = μ.length + 1 + J1.length := by rw [PB, PB]; rfl
 rw [e, yh (μ := μ) (c := .list []), yh (μ := μ) (c := .list [])] at h201
 refine ⟨J, ?_⟩
 have hs := qK (Yb (μ := μ) (c := .list []) |>.trans hm)
 rw [PJ] at hs
 exact jv (n := n) (k := 59) [.d, fV (h201), fR (hs), fS (hl)] (by kernel_rfl)
end
end
theorem jU {a b : Str} (h : a.cps.toList = b.cps.toList) : a = b := by
 obtain ⟨⟨a⟩⟩ := a; obtain ⟨⟨b⟩⟩ := b; simp only at h; rw [h]
theorem qr (a b : Str) : (a ++ b).cps.toList = a.cps.toList ++ b.cps.toList := by
 show (a.cps ++ b.cps).toList = _
 simp
theorem qh (a b c : Str) : a ++ b ++ c = a ++ (b ++ c) := jU (by simp [qr])
theorem jP (a : Str) : PF ++ a = a := jU (by simp [qr, PF])
theorem vo (a : Str) : a ++ PF = a := jU (by simp [qr, PF])
noncomputable def yy (l : List Str) (p : Str) (s : PM') : PM' := match s.l with
 | [] => ⟨l, p ++ s.p, s.e, s.q⟩
 | h :: t => ⟨l ++ ((p ++ h) :: t), s.p, s.e, s.q⟩
theorem Ww {l : List Str} {p : Str} : yy l p m0 = ⟨l, p, false, false⟩ := by
 unfold yy m0; simp only [vo]
theorem QQ {α β : Type} {c : Prop} [Decidable c] {f : α -> β} {x y : β} {a b : α} (h1 : x = f a) (h2 : y = f b) : (if c then x else y) = f (if c then a else b) := by
 by_cases h : c
 ·rw [if_pos h, if_pos h, h1]
 ·rw [if_neg h, if_neg h, h2]
theorem GV {l : List Str} {p x y : Str} {e q : Bool} : (⟨l, p ++ x ++ y, e, q⟩ : PM') = ⟨l, p ++ (x ++ y), e, q⟩ := by rw [qh]
theorem HG {l t : List Str} {a p : Str} {x : List Str} {e q : Bool} : (⟨l ++ a :: t ++ x, p, e, q⟩ : PM') = ⟨l ++ a :: (t ++ x), p, e, q⟩ := by rw [PH]; rfl
theorem Y2 {l : List Str} {p : Str} {s : PM'} {c : Nat} : yO (yy l p s) c = yy l p (yO s c) := by
 obtain ⟨sl, sp, e, q⟩ := s
 have go : ∀ {g : PM' -> PM'} {l' : List Str} {p' : Str}, (∀ e q, (⟨l', p' ++ ch c, e, q⟩ : PM') = g ⟨sl, sp ++ ch c, e, q⟩) -> (∀ e q, (⟨l', p', e, q⟩ : PM') = g ⟨sl, sp, e, q⟩) -> (⟨l' ++ [p'], PF, e, q⟩ : PM') = g ⟨sl ++ [sp], PF, e, q⟩ -> yO ⟨l', p', e, q⟩ c = g (yO ⟨sl, sp, e, q⟩ c) :=
  fun h1 h2 h3 => QQ (h1 _ _) (QQ (QQ (h2 _ _) (QQ (h1 _ _) (h1 _ _))) (QQ h3 (QQ (h1 _ _) (h1 _ _))))
 induction sl with
 | nil => exact go (g := yy l p) (fun zz zz => GV) (fun zz zz => rfl) rfl
 | cons a t => exact go (g := yy l p) (fun zz zz => rfl) (fun zz zz => rfl) HG
theorem ke {l : List Str} {p : Str} : ∀ {cs : List Nat} {s : PM'}, xr (yy l p s) cs = yy l p (xr s cs)
 | [], _ => rfl
 | c :: cs, s => by simp only [xr, Y2, ke]
theorem Q4 : ∀ {a b : List Nat} {s : PM'}, xr s (a ++ b) = xr (xr s a) b
 | [], _, _ => rfl
 | c :: a, b, s => by simp only [AW, xr, Q4]
noncomputable def run (x : Str) : PM' := xr m0 x.cps.toList
def qp (x : Str) : Prop := (run x).e = false /\ (run x).q = false
noncomputable def raw (s : PM') : List Str := s.l ++ [s.p]
noncomputable def jI (x : Str) : List Str := (raw (run x)).map RT
theorem gm {a b : Str} (h : qp a) : run (a ++ b) = yy (run a).l (run a).p (run b) := by
 unfold run
 rw [qr, Q4]
 have : xr m0 a.cps.toList = yy (run a).l (run a).p m0 := by
  rw [Ww]
  obtain ⟨h1, h2⟩ := h
  show run a = _
  generalize run a = s at *
  obtain ⟨l, p, e, q⟩ := s
  simp only at h1 h2 ⊢
  rw [h1, h2]
 rw [this, ke]
 rfl
theorem vh {l : List Str} {p : Str} {s : PM'} : raw (yy l p s) = l ++ (match raw s with | [] => [] | h :: t => (p ++ h) :: t) := by
 obtain ⟨sl, sp, e, q⟩ := s
 induction sl with
 | nil => simp [yy, raw]
 | cons a t => simp [yy, raw]
theorem Ws {l : List Str} {p : Str} {s : PM'} : (yy l p s).e = s.e /\ (yy l p s).q = s.q := by
 unfold yy; split <;> exact ⟨rfl, rfl⟩
theorem xm {a b : Str} (ha : qp a) (hb : qp b) : qp (a ++ b) := by
 unfold qp
 rw [gm ha, Ws.1, Ws.2]
 exact hb
theorem vE {a b : Str} (ha : qp a) : raw (run (a ++ (ch 44 ++ b))) = raw (run a) ++ raw (run b) := by
 have hc : run (ch 44 ++ b) = yy [PF] PF (run b) := by
  unfold run
  rw [qr, Q4]
  have : xr m0 (ch 44).cps.toList = yy [PF] PF m0 := by rw [Ww]; rfl
  rw [this, ke]
 rw [gm ha, hc, vh, vh]
 unfold raw
 cases (run b).l <;> simp [jP, vo]
theorem zr {a b : Str} (ha : qp a) (hb : qp b) : qp (a ++ (ch 44 ++ b)) :=
 xm ha (xm ⟨rfl, rfl⟩ hb)
noncomputable def zw (c : Nat) : Bool := !(c == 44) && !(c == 34)
theorem QC : ∀ {cs : List Nat} {l : List Str} {p : Str}, cs.all zw = true -> xr ⟨l, p, false, false⟩ cs = ⟨l, p ++ ⟨cs.toArray⟩, false, false⟩
 | [], l, p, _ => by
   have : (⟨[].toArray⟩ : Str) = PF := rfl
   simp only [xr, this, vo]
 | c :: cs, l, p, h => by
   simp only [Uk, Rl] at h
   obtain ⟨h1, h2⟩ := h
   unfold zw at h1
   simp at h1
   have : yO ⟨l, p, false, false⟩ c = ⟨l, p ++ ch c, false, false⟩ := by unfold yO; simp [h1]
   simp only [xr, this]
   rw [QC h2, qh]
   have e : ch c ++ ⟨cs.toArray⟩ = (⟨(c :: cs).toArray⟩ : Str) := jU (by simp [qr, ch])
   rw [e]
theorem XZ {a : Str} (h : a.cps.toList.all zw = true) : run a = ⟨[], a, false, false⟩ := by
 unfold run m0
 rw [QC h, jP]
theorem wg {a : Str} (h : a.cps.toList.all zw = true) : qp a := by unfold qp; rw [XZ h]; exact ⟨rfl, rfl⟩
theorem fJ {a b : Str} (h : a.cps.toList.all zw = true) : raw (run (a ++ b)) = (match raw (run b) with | [] => [] | x :: t => (a ++ x) :: t) := by
 rw [gm (wg h), XZ h, vh]
 rfl
theorem Bz {a b : Str} (ha : qp a) (h : b.cps.toList.all zw = true) : raw (run (a ++ b)) = (run a).l ++ [(run a).p ++ b] := by
 rw [gm ha, XZ h, vh]
 rfl
section
open Builtin Builtin.Str
noncomputable def xF (l : List Nat) : List Nat := ((l.dropWhile Rp).reverse.dropWhile Rp).reverse
theorem wp {g : Nat -> Bool} : ∀ l : List Nat, l.drop (l.takeWhile g).length = l.dropWhile g
 | [] => rfl
 | c :: l => by
   induction h : g c with
   | true => simp [ay, az, h, wp l]
   | false => simp [ay, az, h]
theorem xh (x : Str) : (RT x).cps.toList = xF x.cps.toList := by
 have h := PyProof.Rows.stripBy_eq Rp true true x
 show (bH Rp true true x).cps.toList = _
 rw [h]
 unfold strSub stripHi stripLo xF
 simp only [if_true, aa]
 rw [UR, wp]
 generalize hd : x.cps.toList.dropWhile Rp = d
 have hl : (x.cps.toList.takeWhile Rp).length + d.length = x.length := by
  rw [<- hd, <- wp, List.length_drop]
  have : (x.cps.toList.takeWhile Rp).length <= x.cps.toList.length := (List.takeWhile_prefix _).length_le
  have h2 : x.cps.toList.length = x.length := by simp [Sa]
  omega
 rw [<- wp d.reverse, List.drop_reverse, Uq]
 congr 1
 omega
theorem ZX {c : Nat} {l : List Nat} (h : Rp c = true) : xF (c :: l) = xF l := by
 unfold xF; rw [Tz h]
set_option tactic.hygienic true in
theorem X6 {c : Nat} {l : List Nat} (h : Rp c = true) : xF (l ++ [c]) = xF l := by
 unfold xF
 rw [AF]
 split
 ·rename_i hq
  rw [Rf] at hq
  rw [hq, Tz h]
  rfl
 ·rw [TQ]
  show (ae _ (c :: _)).reverse = _
  rw [Tz h]
  rfl
theorem XT {c : Nat} {x : Str} (h : Rp c = true) : RT (ch c ++ x) = RT x := jU (by
 rw [xh, xh, qr]
 exact ZX h)
theorem Yw {c : Nat} {x : Str} (h : Rp c = true) : RT (x ++ ch c) = RT x := jU (by
 rw [xh, xh, qr]
 exact X6 h)
theorem Ij : Rp 32 = true := by decide +kernel
theorem sp9 : Rp 9 = true := by decide +kernel
noncomputable def its (x : Str) : List Str := (jI x).filter fun s => !(s == Pv "")
theorem xg {a b : Str} (ha : qp a) : jI (a ++ (ch 44 ++ b)) = jI a ++ jI b := by
 unfold jI; rw [vE ha, Rt]
theorem BI {s : PM'} : ∃ h t, raw s = h :: t := by
 unfold raw; cases s.l <;> simp
theorem wb {c : Nat} {b : Str} (hp : zw c = true) (hs : Rp c = true) : jI (ch c ++ b) = jI b := by
 unfold jI
 rw [fJ (by simp [ch, hp])]
 obtain ⟨h, t, e⟩ := BI (s := run b)
 rw [e]
 simp only [RO, XT hs]
theorem VB {c : Nat} {a : Str} (ha : qp a) (hp : zw c = true) (hs : Rp c = true) : jI (a ++ ch c) = jI a := by
 unfold jI
 rw [Bz ha (by simp [ch, hp])]
 unfold raw
 rw [Rt, Rt, RO, RO, Yw hs]
theorem xx {c : Nat} {b : Str} (hp : zw c = true) (hb : qp b) : qp (ch c ++ b) := xm (wg (by simp [ch, hp])) hb
theorem Xm {c : Nat} {b : Str} (hp : zw c = true) (hb : qp b) : qp (b ++ ch c) := xm hb (wg (by simp [ch, hp]))
theorem fv : qM = ch 44 ++ ch 32 := by decide +kernel
theorem jA {sep a b : Str} {l : List Str} : PW sep (a :: b :: l) = a ++ sep ++ PW sep (b :: l) := by
 show glued sep _ = _ ++ glued sep _
 rw [SS, SS]
 rfl
theorem jE {sep a : Str} : PW sep [a] = a := by
 show glued sep _ = _
 rw [SS]; rfl
theorem fE {sep : Str} : PW sep [] = PF := by
 show glued sep _ = _
 rw [SS]; rfl
theorem km : ∀ {l : List Str}, (∀ r ∈ l, qp r) -> qp (PW qM l)
 | [], _ => by rw [fE]; exact ⟨rfl, rfl⟩
 | [a], h => by rw [jE]; exact h a (.head _)
 | a :: b :: l, h => by
   rw [jA, fv, qh, qh]
   exact zr (h a (.head _)) (xx rfl (km fun r hr => h r (.tail _ hr)))
theorem vW : ∀ {l : List Str}, l ≠ [] -> (∀ r ∈ l, qp r) -> jI (PW qM l) = l.flatMap jI
 | [], h, _ => absurd rfl h
 | [a], _, h => by rw [jE]; simp
 | a :: b :: l, _, h => by
   rw [jA, fv, qh, qh, xg (h a (.head _)), wb rfl Ij, <- fv, vW (by simp) fun r hr => h r (.tail _ hr)]
   rfl
theorem VO (x : Str) : (qH x).filter (fun s => !(s == Pv "")) = its x := by
 unfold its jI qH Kd raw run
 by_cases h : (xr m0 x.cps.toList).p.length = 0
 ·rw [if_pos h, Rt, SM]
  have e : (xr m0 x.cps.toList).p = PF := jU (by simpa [Sa, PF] using h)
  rw [e]
  have : [PF].map RT = [Pv ""] := by decide +kernel
  rw [this]
  simp
 ·rw [if_neg h]
theorem wH {l : List Str} (h : ∀ r ∈ l, qp r) : qz l = l.flatMap its := by
 unfold qz
 rw [VO]
 by_cases hl : l = []
 ·subst hl
  rw [fE]
  decide +kernel
 ·unfold its
  rw [vW hl h, aA]
end
noncomputable def wr (k : Str) (p : PV) (q : Int) : Str := match p with
 | .int _ => k ++ Pv "="
 | .str s => if q = 2 then k ++ Pv "=" ++ (if s.length = 0 then Pv "\"\"" else s) else if q = 3 then k ++ Pv "=\"" ++ PW PF (bsl s) ++ Pv "\"" else fmt k s q
 | _ => k
noncomputable def DY : PV -> PV -> Bool
 | .none, .none => true
 | .int a, .int b => a == b
 | .str a, .str b => a == b
 | _, _ => false
theorem V3 {a b : PV} (h : DY a b = true) : a = b := by
 unfold DY at h
 split at h
 ·rfl
 ·rw [eq_of_beq h]
 ·rw [eq_of_beq h]
 ·cases h
noncomputable def Io : PV -> Bool
 | .none => true
 | .int a => a == 0
 | .str s => Pz s
 | _ => false
theorem E9 {p : PV} (h : Io p = true) : TOK p := by
 unfold Io at h
 split at h
 ·exact .inl rfl
 ·rw [eq_of_beq h]; exact .inr (.inl rfl)
 ·exact .inr (.inr ⟨_, rfl, h⟩)
 ·cases h
noncomputable def Il (s : Str) : Bool := decide (s.length <= 1000) && (match sp s with
 | [_] => true
 | [_, v] => decide (v.length <= 1000) && Pz v
 | _ => false) && (match SF s (Pv "=") with
 | h :: t => (h == (ent s).1) && decide (t.length <= 1000)
 | [] => false) && (decide ((ent s).1.length <= 1000) && (Pz (ent s).1 && Io (ent s).2))
set_option tactic.hygienic true in
theorem DB {s : Str} (h : Il s = true) : IOK s := by
 unfold Il at h
 simp only [Rl, decide_eq_true_eq] at h
 obtain ⟨⟨⟨h1, h2⟩, h3⟩, h4, h5, h6⟩ := h
 refine ⟨⟨by omega, ?_⟩, by omega, ?_, by omega, h5, E9 h6⟩
 ·split at h2
  ·rename_i x q; exact .inl ⟨x, q⟩
  ·rename_i k v q
   simp only [Rl, decide_eq_true_eq] at h2
   exact .inr ⟨k, v, q, by omega, h2.2⟩
  ·cases h2
 ·split at h3
  ·rename_i x t q
   simp only [Rl, decide_eq_true_eq] at h3
   exact ⟨t, q.trans (by rw [eq_of_beq h3.1]), by omega⟩
  ·cases h3
noncomputable def okC (c : Nat) : Bool := decide (c < 0x110000) && !QF c
noncomputable def E8 (r : Str) (e : Str × PV) : Bool := let s := run r
 s.l.isEmpty && !s.e && !s.q && (let i := RT s.p; !(i == Pv "") && Il i && ((ent i).1 == e.1 && DY (ent i).2 e.2)) && r.cps.toList.all okC && decide (r.length <= 60)
noncomputable def EF : List Nat := [32, 40, 41, 60, 62, 64, 44, 59, 58, 92, 34, 47, 91, 93, 63, 61]
noncomputable def SG : List Str := EF.map ch ++ [120, 39, 33, 123, 45].map ch ++ [PF]
noncomputable def TL : List Str := [PF, ch 9, ch 34, ch 92, ch 121, ch 31, ch 127, ch 128, ch 10, ch 13]
noncomputable def RAW : List Str := [Pv "\"\"y", Pv "y\",\"", PF]
noncomputable def TXT : List Str := (SG.flatMap fun a => TL.map (a ++ ·)) ++ RAW
noncomputable def gd (t : Str) : Bool := !(t.cps.toList.any fun c => [10, 13, 31, 127].contains c)
noncomputable def K3 : List Str := [Pv "k", Pv "K", Pv "a-b\\"]
noncomputable def zed : Str := Pv "z; "
noncomputable def K6 : List Str := K3 ++ K3.map (zed ++ ·)
section
open Builtin Builtin.Str StrLaws
theorem fZ {x y : Str} {c : Nat} {ys : List Nat} (hy : y.cps.toList = c :: ys) {i : Nat} (h : At x y x.length i) : x.cps.toList[i]? = some c := by
 obtain ⟨h1, h2⟩ := h
 unfold subAt at h2
 have e := congrArg Array.toList (eq_of_beq h2)
 rw [aa, UR, hy] at e
 have := congrArg (fun l => l[0]?) e
 simp only [List.getElem?_cons_zero] at this
 rw [List.getElem?_take] at this
 split at this
 ·rw [List.getElem?_drop] at this; simpa using this
 ·cases this
theorem Bd {p y v : Str} : At (p ++ (y ++ v)) y (p ++ (y ++ v)).length p.length := by
 refine ⟨by simp only [PN]; lia, ?_⟩
 unfold subAt
 rw [beq_iff_eq]
 have e : (strSub (p ++ (y ++ v)) p.length (p.length + y.length)).cps.toList = y.cps.toList := by
  rw [strSub_toList, qr, qr, List.drop_append_of_le_length (by simp [Sa])]
  have : List.drop p.length p.cps.toList = [] := List.drop_eq_nil_iff.mpr (by simp [Sa])
  rw [this, U3, T8, Tb (by simp [Sa]), Tg (by simp [Sa])]
 exact Array.toList_inj.mp e
theorem Fx {p z : Str} {c : Nat} (hc : c ∉ p.cps.toList) {i : Nat} (hi : i < p.length) : (p ++ z).cps.toList[i]? ≠ some c := by
 rw [qr, RB (by simpa [Sa] using hi)]
 intro e
 exact hc (Rr e)
theorem ZZ {p z : Str} : strSub (p ++ z) 0 p.length = p := jU (by
 rw [strSub_toList, qr]
 simp [Sa])
theorem fA {p z : Str} : strSub (p ++ z) p.length (p ++ z).length = z := jU (by
 rw [strSub_toList, qr, PN]
 simp [Sa]
 exact Tg (by simp))
theorem WY {k y v : Str} {c : Nat} {ys : List Nat} (hy : y.cps.toList = c :: ys) (hk : c ∉ k.cps.toList) {limit : Nat} (hl : 1 <= limit) :
 ∃ r, occurrences (k ++ (y ++ v)) y 0 (k ++ (y ++ v)).length limit = k.length :: r := by
 rcases occ_head (k ++ (y ++ v)) y limit hl with ⟨_, h⟩ | ⟨i, r, h1, h2, h3⟩
 ·exact absurd Bd (h k.length)
 ·refine ⟨r, ?_⟩
  have : i = k.length := by
   rcases UT i k.length with q | q | q
   ·exact absurd (fZ hy h2) (Fx hk q)
   ·exact q
   ·exact absurd Bd (h3 _ q)
  rw [h1, this]
theorem can {k y v : Str} (hs : strKind y = 1) : (decide ((k ++ (y ++ v)).length < y.length) || decide (strKind (k ++ (y ++ v)) < strKind y)) = false := by
 have h1 := strKind_pos (k ++ (y ++ v))
 have h2 : y.length <= (k ++ (y ++ v)).length := by simp only [PN]; lia
 rw [hs]
 simp
 lia
theorem QL {k y v : Str} {c : Nat} {ys : List Nat} (hy : y.cps.toList = c :: ys) (hs : strKind y = 1) (hk : c ∉ k.cps.toList) : TA (k ++ (y ++ v)) y 1 = [k, v] := by
 unfold TA
 rw [if_neg (by rw [can hs]; decide)]
 have hlim : bV (k ++ (y ++ v)) 1 = 1 := rfl
 rw [hlim]
 obtain ⟨r, hr⟩ := WY (v := v) hy hk (PK 1)
 have hle := occ_length_le (k ++ (y ++ v)) y 0 (k ++ (y ++ v)).length 1
 rw [hr] at hle ⊢
 have : r = [] := by induction r using PD with | nil => rfl | cons a b => simp at hle
 subst this
 rw [if_neg (by simp), partsBetween_eq]
 unfold partsFrom partsFrom
 rw [ZZ, <- qh]
 have e : k.length + y.length = (k ++ y).length := by rw [PN]
 rw [e, fA]
theorem Br {k y v : Str} {c : Nat} {ys : List Nat} (hy : y.cps.toList = c :: ys) (hs : strKind y = 1) (hk : c ∉ k.cps.toList) : ∃ t, SF (k ++ (y ++ v)) y = k :: t := by
 unfold SF
 rw [if_neg (by rw [can hs]; decide)]
 obtain ⟨r, hr⟩ := WY (v := v) hy hk (limit := (k ++ (y ++ v)).length + 1) (by lia)
 rw [hr, if_neg (by simp), partsBetween_eq]
 unfold partsFrom
 rw [ZZ]
 exact ⟨_, rfl⟩
theorem HW {pre p z : Str} : strSub (pre ++ (p ++ z)) pre.length (pre.length + p.length) = p := jU (by
 rw [strSub_toList, qr, qr]
 simp [Sa])
theorem Ld {pre p y v : Str} : At (pre ++ (p ++ (y ++ v))) y (pre ++ (p ++ (y ++ v))).length (pre.length + p.length) := by
 have := Bd (p := pre ++ p) (y := y) (v := v)
 rw [qh] at this
 rw [show pre.length + p.length = (pre ++ p).length from (PN ..).symm]
 exact this
theorem Vi {pre p z : Str} {c : Nat} (hc : c ∉ p.cps.toList) {i : Nat} (h1 : pre.length <= i) (hi : i < pre.length + p.length) : (pre ++ (p ++ z)).cps.toList[i]? ≠ some c := by
 rw [qr, Rn (by simpa [Sa] using h1)]
 have e : pre.cps.toList.length = pre.length := by simp [Sa]
 rw [e]
 exact Fx hc (by lia)
theorem fF {y : Str} {c : Nat} {ys : List Nat} (hy : y.cps.toList = c :: ys) : ∀ (l : List Str) (p pre : Str) (cuts : List Nat) (f : Nat) (x : Str), x = pre ++ PW y (p :: l) -> (∀ q ∈ p :: l, c ∉ q.cps.toList) ->
 ChainG x y x.length pre.length cuts f -> (∀ k, f <= k -> ¬ At x y x.length k) -> partsFrom x y.length pre.length cuts = p :: l
 | [], p, pre, cuts, f, x, hx, hq, hG, hn => by
   rw [jE] at hx
   subst hx
   have hno : ∀ k, pre.length <= k -> ¬ At (pre ++ p) y (pre ++ p).length k := by
    intro k hk hA
    have h1 := fZ hy hA
    have hl : y.cps.toList.length = y.length := by simp [Sa]
    rw [hy] at hl
    simp at hl
    have h2 := hA.1
    rw [PN] at h2
    have := Vi (z := PF) (hq p (.head _)) hk (by lia)
    rw [vo] at this
    exact this h1
   induction cuts using PD with
   | nil =>
     unfold partsFrom
     rw [fA]
   | cons a r => exact absurd hG.2.1 (hno a hG.1)
 | q :: l, p, pre, cuts, f, x, hx, hq, hG, hn => by
   rw [jA, qh] at hx
   subst hx
   have hA := Ld (pre := pre) (p := p) (y := y) (v := PW y (q :: l))
   induction cuts using PD with
   | nil =>
     have : f = pre.length := hG
     exact absurd hA (hn _ (by lia))
   | cons a r =>
     obtain ⟨g1, g2, g3, g4⟩ := hG
     have ha : a = pre.length + p.length := by
      rcases UT a (pre.length + p.length) with h | h | h
      ·exact absurd (fZ hy g2) (Vi (hq p (.head _)) g1 h)
      ·exact h
      ·exact absurd hA (g3 _ (by lia) h)
     subst ha
     unfold partsFrom
     rw [HW]
     have e : pre.length + p.length + y.length = (pre ++ (p ++ y)).length := by simp only [PN]; lia
     rw [e] at g4 ⊢
     rw [fF hy l q (pre ++ (p ++ y)) r f _ (by simp only [qh]) (fun z hz => hq z (.tail _ hz)) g4 hn]
set_option tactic.hygienic true in
theorem Yd {y : Str} {c : Nat} {ys : List Nat} (hy : y.cps.toList = c :: ys) (hs : strKind y = 1) {p : Str} {l : List Str} (hq : ∀ q ∈ p :: l, c ∉ q.cps.toList) : SF (PW y (p :: l)) y = p :: l := by
 have hl : 1 <= y.length := by
  have : y.cps.toList.length = y.length := by simp [Sa]
  rw [hy] at this
  simp at this
  lia
 obtain ⟨f, hG, hn⟩ := occ_tight (PW y (p :: l)) y hl
 have key := fF hy l p PF _ f (PW y (p :: l)) (by rw [jP]) hq hG hn
 have h0 : PF.length = 0 := rfl
 rw [h0, <- partsBetween_eq] at key
 unfold SF
 split
 ·rename_i hc
  induction l using PD with
  | nil => rw [jE]
  | cons q l =>
    exfalso
    rw [jA, qh, can hs] at hc
    cases hc
 ·split
  ·rename_i hq2
   rw [Rf.mp hq2] at key
   rw [partsBetween_eq] at key
   unfold partsFrom at key
   have := fA (p := PF) (z := PW y (p :: l))
   rw [jP, h0] at this
   rw [this] at key
   exact key
  ·exact key
end
section
open PySem.Builtin
theorem yB {sep : Str} {l : List Str} (h : (l.map (·.length)).sum + l.length * sep.length <= 16777216) : (Ur sep l && decide ((PW sep l).length <= Pr)) = true := by
 have h1 : Ur sep l = true := by
  unfold Ur am
  rw [StrLaws.joinTotal]
  exact (S8 _).mpr (decide_eq_false (Sh.mpr h))
 rw [h1, decide_eq_true (joinOk_length h1)]; rfl
noncomputable def JD : Str := "; "
theorem QB : (ftT 184).isSome = true := by kernel_rfl
theorem gP {o u v p : PV} {k : Str} {μ : q4} (hk : yi.contains k = true) : jB 184 (qo 184) [o, u, v] [(k, p)] μ = some (⟨qm 184, [("self", o), ("_name", u), ("_value", v), ("_params", .loc μ.length)]⟩, μ ++ [.kw [(k, p)]]) := by
 have e : jB 184 (qo 184) [o, u, v] [(k, p)] μ = (if (true && (yi.contains k && true)) = true then some (⟨qm 184, [("self", o), ("_name", u), ("_value", v), ("_params", .loc μ.length)]⟩, μ ++ [.kw [(k, p)]]) else none) := by kernel_rfl
 rw [e, hk]; rfl
theorem Dt {o u v : PV} {μ : q4} : jB 184 (qo 184) [o, u, v] [] μ = some (⟨qm 184, [("self", o), ("_name", u), ("_value", v), ("_params", .loc μ.length)]⟩, μ ++ [.kw []]) := by kernel_rfl
section
variable {r : Ev} {σ σ' σ₁ : LE} {t : Expr} {body : List Sf} {m : Nat} {k : Str} {p : PV} {μ μ₁ : q4} {x : Exn}
theorem DR (hp : zi μ m = some []) : y8 r σ t body (.loc m) μ = some (.ok .next, σ, μ) := by
 show (zi μ m).bind _ = _
 rw [hp]; rfl
theorem Ve (hp : zi μ m = some [(k, p)]) (hk : k.length <= Pr) (hb : qu σ t (.tup [.str k, p]) = some σ') (he : r.ex σ' body μ = some (.ok .next, σ₁, μ₁)) (hp' : zi μ₁ m = some [(k, p)]) : y8 r σ t body (.loc m) μ = some (.ok .next, σ₁, μ₁) := by
 show (zi μ m).bind _ = _
 rw [hp]
 show (if (true && decide (k.length <= Pr)) = true then _ else _) = _
 rw [decide_eq_true hk]
 show (qu σ t _).bind _ = _
 rw [hb]
 show (match r.ex σ' body μ with | some (.ok .next, σ₁, μ₁) => _ | some (.error x, σ₁, μ₁) => _ | _ => _) = _
 rw [he]
 show ((zi μ₁ m).bind one).bind _ = _
 rw [hp']; rfl
theorem CA (hp : zi μ m = some [(k, p)]) (hk : k.length <= Pr) (hb : qu σ t (.tup [.str k, p]) = some σ') (he : r.ex σ' body μ = some (.error x, σ₁, μ₁)) : y8 r σ t body (.loc m) μ = some (.error x, σ₁, μ₁) := by
 show (zi μ m).bind _ = _
 rw [hp]
 show (if (true && decide (k.length <= Pr)) = true then _ else _) = _
 rw [decide_eq_true hk]
 show (qu σ t _).bind _ = _
 rw [hb]
 show (match r.ex σ' body μ with | some (.ok .next, σ₁, μ₁) => _ | some (.error x, σ₁, μ₁) => _ | _ => _) = _
 rw [he]
end
theorem FA {m : SR'} {σ : LE} {μ : q4} (h : m = some (.ok .next, σ, μ)) : zX m = some (.ok .none, μ) := h ▸ rfl
theorem FG {m : SR'} {σ : LE} {μ : q4} {x : Exn} (h : m = some (.error x, σ, μ)) : zX m = some (.error { x with here := false }, μ) := h ▸ rfl
noncomputable abbrev xS (T : Nat) (nm : Str) (v0 : PV) (P Q : Nat) (tl : Loc) : LE := ⟨qm 184, ("self", .loc T) :: ("_name", .str nm) :: ("_value", v0) :: ("_params", .loc P) :: ("parts", .loc Q) :: tl⟩
noncomputable abbrev wC (k : Str) (p : PV) : Loc := [("k", .str k), ("v", p)]
noncomputable def usc (k : Str) : Str := SA k "_" "-"
theorem BR {x : Str} {μ : q4} (hx : x.length <= 1000) : jW x "replace" [.str "_", .str "-"] μ = some (.ok (.str (usc x)), μ) := by
 show (if decide (16000000 < x.length) = true then none else if (decide (x.length <= 1048576)) = true then _ else _) = _
 rw [if_neg (by rw [decide_eq_true_iff]; lia), if_pos (decide_eq_true (by lia))]; rfl
section
variable {n T d H P : Nat} {nm k s : Str} {v0 : PV} {M : q4} {rows : Ps} {l : List Str} {tl : Loc} (t : Tab M T d H rows)
theorem WA {v : Str} (hl : l.length + 1 <= Pr) : j0 (.loc M.length) "append" [.str v] (M ++ [ls l]) = some (.ok .none, M ++ [ls (l ++ [v])]) := W8 hl
include t
theorem Mv (hl : l.length + 1 <= Pr) (hk : bad true k = false) (hkl : k.length <= 1000) :
 (evN ftT (n + 30)).ex (xS T nm v0 P M.length (wC k .none)) (qV (qo 184).body) (M ++ [ls l]) = some (.ok .next, xS T nm v0 P M.length (wC k .none), M ++ [ls (l ++ [usc k])]) := by
 have t' := t.app (J := [ls l])
 exact ql [fI (t'.i), .c (t'.ok rfl : qn (M ++ [ls l]) d (Pv "_convert_string_type") = true), fV (jx (n := n + 19) (o := PV.loc T) (μ := M ++ [ls l]) hk), fI (xb (μ := M) (l := Rm PV.str l)), fL (zD (μ := M) (l := Rm PV.str l)), fV (BR (μ := M ++ [ls l]) hkl), fV ((WA hl : j0 (PV.loc (Sp M)) (Pv "append") [PV.str (usc k)] (M ++ [ls l]) = some (Rs PV.none, M ++ [ls (l ++ [usc k])])))] (by kernel_rfl)
theorem NJ (hl : l.length + 1 <= Pr) (hk : bad true k = false) (hkl : k.length <= 1000) (hs : bad false s = false) (hf : yD (usc k) s) :
 (evN ftT (n + 30)).ex (xS T nm v0 P M.length (wC k (.str s))) (qV (qo 184).body) (M ++ [ls l]) = some (.ok .next, xS T nm v0 P M.length (wC k (.str s)), M ++ [ls (l ++ [fmt (usc k) s 1])]) := by
 have t' := t.app (J := [ls l])
 exact ql [fI (t'.i), .c (t'.ok rfl : qn (M ++ [ls l]) d (Pv "_convert_string_type") = true), fV (jx (n := n + 19) (o := PV.loc T) (μ := M ++ [ls l]) hk), fI (t'.i), .c (t'.ok rfl : qn (M ++ [ls l]) d (Pv "_convert_string_type") = true), fV (jx (n := n + 18) (o := PV.loc T) (μ := M ++ [ls l]) hs), fI (xb (μ := M) (l := Rm PV.str l)), fL (zD (μ := M) (l := Rm PV.str l)), fV (BR (μ := M ++ [ls l]) hkl), fV (DJ (n := n + 11) (μ := M ++ [ls l]) hf), fV ((WA hl : j0 (PV.loc (Sp M)) (Pv "append") [PV.str (fmt (usc k) s 1)] (M ++ [ls l]) = some (Rs PV.none, M ++ [ls (l ++ [fmt (usc k) s 1])])))] (by kernel_rfl)
theorem Nh (hk : bad true k = false) (hs : bad false s = true) :
 (evN ftT (n + 30)).ex (xS T nm v0 P M.length (wC k (.str s))) (qV (qo 184).body) (M ++ [ls l]) = some (.error fu, xS T nm v0 P M.length (wC k (.str s)), M ++ [ls l]) := by
 have t' := t.app (J := [ls l])
 exact ql [fI (t'.i), .c (t'.ok rfl : qn (M ++ [ls l]) d (Pv "_convert_string_type") = true), fV (jx (n := n + 19) (o := PV.loc T) (μ := M ++ [ls l]) hk), fI (t'.i), .c (t'.ok rfl : qn (M ++ [ls l]) d (Pv "_convert_string_type") = true), fV (Zd (n := n + 18) (o := PV.loc T) (μ := M ++ [ls l]) hs)] (by kernel_rfl)
noncomputable abbrev XP (n T : Nat) (nm : Str) (v0 : PV) (P : Nat) (M : q4) (l : List Str) : SR' := y8 (evN ftT (n + 38)) (xS T nm v0 P M.length []) (y5 (qo 184).body) (qV (qo 184).body) (.loc P) (M ++ [ls l])
noncomputable abbrev E5 (n T : Nat) (nm : Str) (v0 : PV) (P : Nat) (M : q4) : PR PV := zX ((evN ftT (n + 39)).ex ⟨qm 184, [("self", .loc T), ("_name", .str nm), ("_value", v0), ("_params", .loc P)]⟩ (qo 184).body M)
theorem Wt (hb : bad true nm = false) (hr : rows.length + 1 <= Pr) (hj : (Ur JD l && decide ((PW JD l).length <= Pr)) = true) (hx : XP n T nm .none P M [] = some (.ok .next, xS T nm .none P M.length tl, M ++ [ls l])) :
 E5 n T nm .none P M = some (.ok .none, qj (M ++ [ls l]) H (rw' (rows ++ [(nm, PW JD l)]))) := by
 have t' := t.app (J := [ls l])
 refine FA (σ := xS T nm .none P M.length tl) ?_
 exact ql [fS (hx), fV (t'.attr), fI (jg t'.h), fL (je t'.h), fI (t'.i), .c (t'.ok rfl : qn (M ++ [ls l]) d (Pv "_convert_string_type") = true), fV (jx (n := n + 26) (o := PV.loc T) (μ := M ++ [ls l]) hb), fV (y9 (μ := M ++ [ls l]) q6 hj), fV (Z1 (v := (nm, PW JD l)) t'.h hr)] (by kernel_rfl)
theorem WB (hb : bad true nm = false) (hr : rows.length + 1 <= Pr) (hs : bad false s = false) (hj : (Ur JD l && decide ((PW JD l).length <= Pr)) = true) (hx : XP n T nm (.str s) P M [s] = some (.ok .next, xS T nm (.str s) P M.length tl, M ++ [ls l])) :
 E5 n T nm (.str s) P M = some (.ok .none, qj (M ++ [ls l]) H (rw' (rows ++ [(nm, PW JD l)]))) := by
 have t' := t.app (J := [ls l])
 have t0 := t.app (J := [ls []])
 refine FA (σ := xS T nm (.str s) P M.length tl) ?_
 exact ql [fI (t0.i), .c (t0.ok rfl : qn (M ++ [q8.list []]) d (Pv "_convert_string_type") = true), fV (jx (n := n + 27) (o := PV.loc T) (μ := M ++ [q8.list []]) hs), fI (xb (μ := M) (l := [])), fL (zD (μ := M) (l := [])), fV (WA (M := M) (l := []) (v := s) le1), fS (hx), fV (t'.attr), fI (jg t'.h), fL (je t'.h), fI (t'.i), .c (t'.ok rfl : qn (M ++ [ls l]) d (Pv "_convert_string_type") = true), fV (jx (n := n + 26) (o := PV.loc T) (μ := M ++ [ls l]) hb), fV (y9 (μ := M ++ [ls l]) q6 hj), fV (Z1 (v := (nm, PW JD l)) t'.h hr)] (by kernel_rfl)
theorem F4 (hx : XP n T nm .none P M [] = some (.error fu, xS T nm .none P M.length tl, M ++ [ls l])) : E5 n T nm .none P M = some (.error fu, M ++ [ls l]) := by
 refine FG (x := fu) (σ := xS T nm .none P M.length tl) ?_
 exact ql [fS (hx)] (by kernel_rfl)
theorem Gp (hs : bad false s = false) (hx : XP n T nm (.str s) P M [s] = some (.error fu, xS T nm (.str s) P M.length tl, M ++ [ls l])) : E5 n T nm (.str s) P M = some (.error fu, M ++ [ls l]) := by
 have t0 := t.app (J := [ls []])
 refine FG (x := fu) (σ := xS T nm (.str s) P M.length tl) ?_
 exact ql [fI (t0.i), .c (t0.ok rfl : qn (M ++ [q8.list []]) d (Pv "_convert_string_type") = true), fV (jx (n := n + 27) (o := PV.loc T) (μ := M ++ [q8.list []]) hs), fI (xb (μ := M) (l := [])), fL (zD (μ := M) (l := [])), fV (WA (M := M) (l := []) (v := s) le1), fS (hx)] (by kernel_rfl)
end
end
section
variable {n T d H m : Nat} {nm k s : Str} {p v : PV} {μ J M : q4} {rows : Ps} {l : List Str}
theorem J9 {kw : Loc} : zi (μ ++ [.kw kw] ++ [ls l]) μ.length = some kw := by
 unfold zi; rw [PH, Tq, y7]; rfl
theorem YU : qu (xS T nm p d m []) (y5 (qo 184).body) (.tup [.str k, v]) = some (xS T nm p d m (wC k v)) := by kernel_rfl
structure Xz (k : Str) : Prop where
 c : yi.contains k = true
 b : bad true k = false
 l : k.length <= 1000
 u : (usc k).length <= 1000
theorem Xz.fit (h : Xz k) : k.length <= Pr := Pq h.l (by decide)
theorem LD (t : Tab μ T d H rows) (h : Xz k) (hl : l.length + 1 <= Pr) : XP n T nm v μ.length (μ ++ [.kw [(k, .none)]]) l = some (.ok .next, xS T nm v μ.length (μ ++ [q8.kw [(k, .none)]]).length (wC k .none), μ ++ [.kw [(k, .none)]] ++ [ls (l ++ [usc k])]) :=
 Ve J9 h.fit YU (Mv (n := n + 8) t.app hl h.b h.l) J9
theorem B8 (t : Tab μ T d H rows) (h : Xz k) (hl : l.length + 1 <= Pr) (hs : bad false s = false) (hf : yD (usc k) s) : XP n T nm v μ.length (μ ++ [.kw [(k, .str s)]]) l = some (.ok .next, xS T nm v μ.length (μ ++ [q8.kw [(k, .str s)]]).length (wC k (.str s)), μ ++ [.kw [(k, .str s)]] ++ [ls (l ++ [fmt (usc k) s 1])]) :=
 Ve J9 h.fit YU (NJ (n := n + 8) t.app hl h.b h.l hs hf) J9
theorem G4 (t : Tab μ T d H rows) (h : Xz k) (hs : bad false s = true) : XP n T nm v μ.length (μ ++ [.kw [(k, .str s)]]) l = some (.error fu, xS T nm v μ.length (μ ++ [q8.kw [(k, .str s)]]).length (wC k (.str s)), μ ++ [.kw [(k, .str s)]] ++ [ls l]) :=
 CA J9 h.fit YU (Nh (n := n + 8) t.app h.b hs)
theorem WV {K L : q4} {c : q8} (hH : H < μ.length) : qj (μ ++ K ++ L) H c = qj μ H c ++ (K ++ L) := by rw [PH, yC hH]
theorem Be (t : Tab μ T d H rows) (hb : bad true nm = false) (h : Xz k) (hr : rows.length + 1 <= Pr) :
 ∃ J, (evN ftT (n + 40)).call 184 [.loc T, .str nm, .none] [(k, .none)] μ = some (.ok .none, qj μ H (rw' (rows ++ [(nm, usc k)])) ++ J) := by
 refine ⟨[.kw [(k, .none)]] ++ [ls [usc k]], ?_⟩
 have q := Wt (n := n) (l := [usc k]) t.app hb hr (yB (by show (usc k).length + 0 + 1 * 2 <= _; have := h.u; lia)) (LD (l := []) t h le1)
 rw [jE, WV t.lt] at q
 rw [qX QB (gP h.c)]; exact q
noncomputable def zS : Str := "z"
theorem G8 {x : Str} : PW JD [zS, x] = zed ++ x := by
 rw [jA, jE]; exact congrArg (· ++ x) (by kernel_rfl)
noncomputable def zv (z : Bool) : PV := if z = true then .str zS else .none
noncomputable def zp (z : Bool) : Str := if z = true then zed else PF
theorem MA : bad false zS = false := by kernel_rfl
theorem Xf {z : Bool} (t : Tab μ T d H rows) (hb : bad true nm = false) (h : Xz k) (hf : yD (usc k) s) (hl : (fmt (usc k) s 1).length <= 10000) (hr : rows.length + 1 <= Pr) :
 ∃ J, (evN ftT (n + 40)).call 184 [.loc T, .str nm, zv z] [(k, .str s)] μ = if bad false s = true then some (.error fu, μ ++ J) else some (.ok .none, qj μ H (rw' (rows ++ [(nm, zp z ++ fmt (usc k) s 1)])) ++ J) := by
 induction hs : bad false s with
 | true =>
   induction z with
   | true =>
     refine ⟨[.kw [(k, .str s)]] ++ [ls [zS]], ?_⟩
     have q := Gp (n := n) (nm := nm) (M := μ ++ [.kw [(k, .str s)]]) t.app MA (G4 (l := [zS]) t h hs)
     rw [PH μ] at q
     rw [qX QB (gP h.c)]; exact q
   | false =>
     refine ⟨[.kw [(k, .str s)]] ++ [ls []], ?_⟩
     have q := F4 (n := n) (nm := nm) (M := μ ++ [.kw [(k, .str s)]]) t.app (G4 (l := []) t h hs)
     rw [PH μ] at q
     rw [qX QB (gP h.c)]; exact q
 | false =>
   induction z with
   | true =>
     refine ⟨[.kw [(k, .str s)]] ++ [ls [zS, fmt (usc k) s 1]], ?_⟩
     have q := WB (n := n) (l := [zS, fmt (usc k) s 1]) t.app hb hr MA (yB (by show 1 + ((fmt (usc k) s 1).length + 0) + 2 * 2 <= _; lia)) (B8 (l := [zS]) t h Bq hs hf)
     rw [G8, WV t.lt] at q
     rw [qX QB (gP h.c)]; exact q
   | false =>
     refine ⟨[.kw [(k, .str s)]] ++ [ls [fmt (usc k) s 1]], ?_⟩
     have q := Wt (n := n) (l := [fmt (usc k) s 1]) t.app hb hr (yB (by show (fmt (usc k) s 1).length + 0 + 1 * 2 <= _; lia)) (B8 (l := []) t h le1 hs hf)
     rw [jE, WV t.lt] at q
     rw [qX QB (gP h.c), show zp false = PF from rfl, jP]; exact q
theorem F3 (t : Tab μ T d H rows) (hb : bad true nm = false) (hs : bad false s = false) (hl : s.length <= 100000) (hr : rows.length + 1 <= Pr) :
 ∃ J, (evN ftT (n + 40)).call 184 [.loc T, .str nm, .str s] [] μ = some (.ok .none, qj μ H (rw' (rows ++ [(nm, s)])) ++ J) := by
 refine ⟨[.kw []] ++ [ls [s]], ?_⟩
 have q := WB (n := n) (l := [s]) (tl := []) (M := μ ++ [.kw []]) (P := μ.length) t.app hb hr hs (yB (by show s.length + 0 + 1 * 2 <= _; lia)) (DR J9)
 rw [jE, WV t.lt] at q
 rw [qX QB Dt]; exact q
noncomputable abbrev b81 : List Sf := sB (qo 81).body 3 0
noncomputable abbrev S81 (T H : Nat) (o : Option (Str × Str)) : LE := ⟨qm 81, ("self", .loc T) :: ("headers", .loc H) :: ukv o⟩
theorem t81 {kv : Str × Str} (t : Tab μ T d H rows) (hk : bad true kv.1 = false) (hv : bad false kv.2 = false) : (evN ftT (n + 20)).ex (S81 T H (some kv)) (qV b81) μ = some (.ok .next, S81 T H (some kv), μ) := by
 exact ql [fI (t.i), .c (t.ok rfl : qn μ d (Pv "_convert_string_type") = true), fV (jx (n := n + 9) (o := PV.loc T) (μ := μ) hk), fI (t.i), .c (t.ok rfl : qn μ d (Pv "_convert_string_type") = true), fV (jx (n := n + 9) (o := PV.loc T) (μ := μ) hv)] (by kernel_rfl)
theorem MS {o : Option (Str × Str)} {kv : Str × Str} : qu (S81 T H o) (y5 b81) (row kv) = some (S81 T H (some kv)) := by
 induction o <;> kernel_rfl
theorem B7 (t : Tab μ T d H rows) (hg : ∀ kv ∈ rows, bad true kv.1 = false /\ bad false kv.2 = false) :
 ∃ o, zQ (evN ftT (n + 20)) (.list H) (y5 b81) (qV b81) (rows.length + 1) 0 (S81 T H none) μ = some (.ok .next, S81 T H o, μ) := by
 refine xu (N := rows.length) (S := S81 T H) (M := fun zz => μ) (P := fun zz zz => True) (Q := fun R => ∃ o, R = some (.ok .next, S81 T H o, μ)) (fun i o hi zz => ?_) (fun o zz => ⟨?_, o, rfl⟩) trivial
 ·have g := hg _ (Rx hi)
  refine ⟨row rows[i], _, ?_, MS, .inl ⟨.next, some rows[i], .inl rfl, t81 t g.1 g.2, trivial⟩⟩
  rw [qG t.h, PY hi]; rfl
 ·rw [qG t.h, RC (PK _)]; rfl
noncomputable abbrev ntS (μ : q4) (l : Loc) (J : q4) : q4 := μ ++ .dict l :: .inst μ.length :: J
theorem V0 {l : Loc} : qw (ntS μ l J) (.loc (μ.length + 1)) = some μ.length := by
 show ((μ ++ .dict l :: .inst μ.length :: J)[μ.length + 1]?).bind xA = _
 rw [Rn (Rd ..), T8]; rfl
theorem Wn {l : Loc} : qe (ntS μ l J) μ.length = some l := by unfold qe; rw [y7]; rfl
theorem Fv : ZC (.loc (μ.length + 1)) "_headers" v (ntS μ [] J) = some (.ok .none, ntS μ [("_headers", v)] J) := by
 unfold ZC
 rw [V0, PL, Wn]
 show some (Rs PV.none, qj _ _ _) = _
 unfold qj; rw [SQ _ _ (PK _), Ss]; rfl
theorem Vg {l : List PV} (h : q5 μ m = some l) : ZF (.loc m) μ = some (.ok (.val (.type "list")), μ) := by
 show (q5 μ m).bind _ = _
 rw [h]; rfl
theorem Jv (h : q5 (ntS μ [("_headers", .loc H)] J) H = some (rows.map row)) : Tab (ntS μ [("_headers", .loc H)] J) (μ.length + 1) μ.length H rows := ⟨V0, Wn, h⟩
theorem C1 (hm : q5 μ H = some (rows.map row)) (hg : ∀ kv ∈ rows, bad true kv.1 = false /\ bad false kv.2 = false) :
 (evN ftT (n + 40)).call 81 [.loc (μ.length + 1), .loc H] [] (ntS μ [] []) = some (.ok .none, ntS μ [("_headers", .loc H)] []) := by
 have t := Jv (J := []) (qc hm)
 obtain ⟨o, hl⟩ := B7 (n := n + 17) t hg
 exact jv (n := n) (k := 39) [.d, .d, fV (Vg (μ := ntS μ [] []) (qc hm)), .d, .d, fV (Fv (v := PV.loc H) (μ := μ) (J := [])), fR (t.src), fS (hl)] (by kernel_rfl)
theorem GO {l : Loc} : q5 (ntS μ l [.list []]) (μ.length + 2) = some [] := by
 unfold q5
 rw [Rn (Rd ..), T8]; rfl
theorem DZ : (evN ftT (n + 40)).call 81 [.loc (μ.length + 1)] [] (ntS μ [] []) = some (.ok .none, ntS μ [("_headers", .loc (μ.length + 2))] [.list []]) := by
 have t := Jv (rows := []) (GO (μ := μ) (l := [("_headers", .loc (μ.length + 2))]))
 obtain ⟨o, hl⟩ := B7 (n := n + 17) t (fun zz h => nomatch h)
 have hp : jr [] (ntS μ [] []) = some (.ok (.loc (μ.length + 2)), ntS μ [] [.list []]) := by
  rw [ji (Rj _), yh, PB]; rfl
 exact jv (n := n) (k := 39) [.d, .d, fV (hp), fV (Vg (μ := ntS μ [] [.list []]) (GO)), .d, .d, fV (Fv (v := PV.loc (Sp μ + 2)) (μ := μ) (J := [q8.list []])), fR (t.src), fS (hl)] (by kernel_rfl)
end
theorem KA (h : Nat) : Af 0 (h : Int) 1 = UM h := by
 unfold Af
 rw [if_pos (by decide)]
 induction h with
 | zero => rfl
 | succ h =>
   rw [if_pos (by lia)]
   have : ((((h + 1 : Nat) : Int) - 0 + 1 - 1) / 1).toNat = h + 1 := by lia
   show (UM ((((h + 1 : Nat) : Int) - 0 + 1 - 1) / 1).toNat).map (fun (k : Nat) => (0 + 1 * (k : Int)).toNat) = _
   rw [this]
   refine List.ext_getElem (by rw [PJ]) fun i h1 h2 => ?_
   rw [List.getElem_map, List.getElem_range]; lia
theorem Ys {α : Type} {l : List α} {h : Nat} (hle : h <= l.length) : (UM h).filterMap (l[·]?) = l.take h := by
 induction h with
 | zero => rfl
 | succ h ih =>
   rw [bM, List.filterMap_append, ih (RL hle), TT (PY hle), SY hle]; rfl
theorem Zb {l : List PV} {i : Int} {h : Nat} (e : (if i < 0 then l.length - (-i).toNat else min i.toNat l.length) = h) (hle : h <= l.length) : gO l none (some i) = l.take h := by
 unfold gO
 have e1 : (Sz none (some i) none l.length).1 = 0 := by simp [Sz]
 have e2 : (Sz none (some i) none l.length).2.1 = (h : Int) := by
  rw [<- e]
  have h1 : (1 : Int) > 0 := by decide
  by_cases h : i < 0
  ·simp only [Sz, bD, h1, if_true, if_pos h]; omega
  ·simp only [Sz, bD, h1, if_true, if_neg h]; omega
 rw [e1, e2]
 show (Af 0 (h : Int) 1).filterMap _ = _
 rw [KA, Ys hle]
theorem B3 {l : List PV} {a b : PV} : gO (l ++ [a, b]) none (some (-2)) = l := by
 have e : (l ++ [a, b]).length = l.length + 2 := PB
 rw [Zb (h := l.length) (by rw [if_pos (by decide), e]; rfl) (by rw [e]; exact Rd ..), List.take_left]
theorem gI {α : Type} {r : Ev} {src : Src} {l : List α} {target elt : Expr} {ifs : List Expr} {μ : q4} {Inv : LE -> Prop} {R : q4 -> α -> PV -> Prop} (hif : ifs = []) (V : α -> PV) (mono : ∀ ν J v y, R ν v y -> R (ν ++ J) v y) (hn : ∀ i J, xo src i (μ ++ J) = some ((l[i]?).map V))
 (h : ∀ σ v J, Inv σ -> v ∈ l -> ∃ σ' y J', qu σ target (V v) = some σ' /\ Inv σ' /\ r.ev σ' elt (μ ++ J) = some (.ok y, μ ++ (J ++ J')) /\ R (μ ++ (J ++ J')) v y) (k : Nat) :
 ∀ (i : Nat) (σ : LE) (J : q4), Inv σ -> k + i = l.length + 1 -> i <= l.length -> ∃ (zs : List (α × PV)) (J' : q4), zV r src target ifs elt k i σ (μ ++ J) = some (.ok (zs.map Rh), μ ++ (J ++ J')) /\ zs.map RN = l.drop i /\ ∀ z ∈ zs, R (μ ++ (J ++ J')) z.1 z.2 := by
 subst hif
 induction k with
 | zero => intro i σ J _ h1 h2; exact absurd h2 (by lia)
 | succ k ih =>
   intro i σ J hI h1 h2
   unfold zV
   rw [hn]
   by_cases hi : i < l.length
   ·obtain ⟨σ', y, J1, a1, a2, a3, a4⟩ := h σ l[i] J hI (Rx hi)
    obtain ⟨zs, J2, b1, b2, b3⟩ := ih (i + 1) σ' (J ++ J1) a2 (by lia) hi
    rw [PH J J1 J2] at b1 b3
    refine ⟨(l[i], y) :: zs, J1 ++ J2, ?_, ?_, fun z hz => ?_⟩
    ·rw [PY hi]
     show (qu σ target (V l[i])).bind _ = _
     rw [a1]
     show qa (r.ev σ' elt (μ ++ J)) _ = _
     rw [a3]
     show qa (zV r src target [] elt k (i + 1) σ' (μ ++ (J ++ J1))) _ = _
     rw [b1]; rfl
    ·rw [S9 hi, <- b2]; rfl
    ·rcases Rq.mp hz with rfl | hz
     ·have a := mono _ J2 _ _ a4
      rwa [PH, PH] at a
     ·exact b3 z hz
   ·have e : i = l.length := by lia
    subst e
    rw [RC (PK _), TE]
    exact ⟨[], [], by rw [PS]; rfl, rfl, fun zz h => nomatch h⟩
theorem yl {α : Type} {r : Ev} {src : Src} {l : List α} {target elt : Expr} {ifs : List Expr} {μ : q4} {σ : LE} {Inv : LE -> Prop} {f : α -> PV} (hif : ifs = []) (V : α -> PV) (hn : ∀ i J, xo src i (μ ++ J) = some ((l[i]?).map V))
 (h : ∀ σ v J, Inv σ -> v ∈ l -> ∃ σ' J', qu σ target (V v) = some σ' /\ Inv σ' /\ r.ev σ' elt (μ ++ J) = some (.ok (f v), μ ++ (J ++ J'))) (hI : Inv σ) (hl : l.length <= Pr) :
 ∃ J', qF r σ elt target ifs (src, l.length + 1) μ = some (.ok (.loc (μ ++ J').length), μ ++ J' ++ [.list (l.map f)]) := by
 obtain ⟨zs, J', h1, h2, h3⟩ := gI (R := fun zz v y => y = f v) hif V (fun zz zz zz zz h => h) hn (fun σ v J a b => (h σ v J a b).elim fun σ' q => q.elim fun J' q => ⟨σ', _, J', q.1, q.2.1, q.2.2, rfl⟩) (l.length + 1) 0 σ [] hI rfl (Rj _)
 have e : zs.map Rh = l.map f := by
  rw [<- Ad (l := l), <- h2, Su]; exact SK h3
 rw [PS, U3, e] at h1
 exact ⟨J', qA h1 (by rw [PJ]; exact hl)⟩
theorem vn {μ : q4} {m : Nat} {α : Type} {l : List α} {V : α -> PV} (h : q5 μ m = some (l.map V)) (i : Nat) (J : q4) : xo (.list m) i (μ ++ J) = some ((l[i]?).map V) := qG (qc h) i
def qi (μ : q4) (H : Nat) (ν : q4) : Prop := μ.length <= ν.length /\ ∀ a, a < μ.length -> a ≠ H -> ν[a]? = μ[a]?
section
variable {μ ν ρ J : q4} {H H' a : Nat} {c : q8} {l : List PV}
theorem qi.app : qi μ H (μ ++ J) := ⟨by rw [PB]; exact Rd .., fun a ha zz => jN ha⟩
theorem qi.set : qi μ H (qj μ H c ++ J) := ⟨by rw [PB, gC]; exact Rd .., fun a ha hn => by rw [jN (by rw [gC]; exact ha), w9 hn]⟩
theorem qi.trans (x : qi μ H ν) (y : qi ν H' ρ) (h : H' = H \/ μ.length <= H') : qi μ H ρ := ⟨Pq x.1 y.1, fun a ha hn => (y.2 a (PZ ha x.1) fun e => h.elim (fun h => hn (e.trans h)) fun h => absurd (e ▸ h) (Nat.not_le.mpr ha)).trans (x.2 a ha hn)⟩
theorem qi.list (x : qi μ H ν) (h : q5 μ a = some l) (hn : a ≠ H) : q5 ν a = some l := (wG (x.2 a (R0.mp (vY h)).1 hn)).trans h
end
theorem BJ {n : Nat} {σ σ' : LE} {b : List Sf} {μ μ' : q4} (i : Nat) (h : (evN ftT (n + 1)).ex σ (b.take i) μ = some (.ok .next, σ', μ')) : (evN ftT (n + 1)).ex σ b μ = (evN ftT (n + 1)).ex σ' (b.drop i) μ' := by
 have key : ∀ (r : Ev) (b c : List Sf) (σ : LE) (μ : q4), zo r σ b μ = some (.ok .next, σ', μ') -> zo r σ (b ++ c) μ = zo r σ' c μ' := by
  intro r b c
  induction b with
  | nil =>
    intro σ μ h
    have h : some (Rs j6.next, σ, μ) = some (Rs j6.next, σ', μ') := h
    injection h with h; injection h with _ h; injection h with h1 h2
    rw [<- h1, <- h2]; rfl
  | cons s b ih =>
    intro σ μ h
    have e1 : ∀ d, zo r σ (s :: d) μ = (match wT r σ s μ with | some (.ok .next, σ₁, μ₁) => zo r σ₁ d μ₁ | o => o) := fun zz => rfl
    rw [e1] at h
    refine (e1 (b ++ c)).trans ?_
    induction hs : wT r σ s μ with
    | none => rw [hs] at h; exact nomatch h
    | some q =>
      obtain ⟨q, σ₁, μ₁⟩ := q
      rw [hs] at h
      induction q with
      | error x => exact nomatch h
      | ok f => induction f with
        | next => exact ih σ₁ μ₁ h
        | _ => exact nomatch h
 have e := key (evN ftT n) (b.take i) (b.drop i) σ μ h
 rwa [List.take_append_drop] at e
structure WS' (s : Str) : Prop where
 o : Pz s = true
 l : s.length <= 1000
 e : (esc s).length <= 3000
 r : (SA s "\\" "\\\\").length <= 3000
def WOK (p : PV) : Prop := p = .none \/ p = .int 0 \/ ∃ s, p = .str s /\ WS' s
theorem WS'.fmt {k s : Str} (w : WS' s) (hk : k.length <= 1000) : yD k s := ⟨Pq hk (by decide), Pq w.l (by decide), Pq w.r (by decide), Pq w.e (by decide)⟩
noncomputable def wrJ (p : PV) (q : Int) : q4 := match p with
 | .str s => if q = 3 then [ls (bsl s)] else []
 | _ => []
theorem EA (s : Str) : ((bsl s).map (·.length)).sum + (bsl s).length * PF.length = 2 * s.length := by
 rw [show PF.length = 0 from rfl, Nat.mul_zero, Nat.add_zero, <- zj]
 unfold bsl
 induction s.cps.toList with
 | nil => rfl
 | cons c l ih =>
   rw [RO, RO, TU, ih, PN, SX]
   show 1 + 1 + _ = _
   rw [Nat.mul_succ, UB]
open Builtin Builtin.Str in
theorem yW {sep : Str} {l : List Str} : (PW sep l).length <= (l.map (·.length)).sum + l.length * sep.length := by
 show (glued sep l).length <= _
 rw [SS]
 exact StrLaws.join_length_le sep l
section
variable {n T d H a m : Nat} {nm k v : Str} {p : PV} {q kd : Int} {μ J M : q4} {rows : Ps} {l ws : List Str} {es : Loc}
theorem WP (hk : k.length <= 1000) (w : WOK p) (hq : q ≠ 2 \/ ∃ s, p = .str s) : (evN ftT (n + 30)).call 220 [.str k, p, .int q] [] μ = some (.ok (.str (wr k p q)), μ ++ wrJ p q) := by
 rcases w with rfl | rfl | ⟨s, rfl, w⟩
 ·rw [E3 hk (hq.elim id fun ⟨_, h⟩ => nomatch h)]
  show _ = some (_, μ ++ []); rw [PS]; rfl
 ·rw [Cr hk]
  show _ = some (_, μ ++ []); rw [PS]; rfl
 ·unfold wr wrJ
  dsimp only
  by_cases h2 : q = 2
  ·rw [Hx w.o hk w.l h2, if_pos h2, if_neg (c := q = 3) (h2 ▸ (by decide)), PS]; rfl
  ·rw [if_neg h2]
   by_cases h3 : q = 3
   ·have hb := EA s
    have hl := w.l
    have hjl := yW (sep := PF) (l := bsl s)
    rw [Kn w.o hk w.l (yB (by lia)) (by lia) h3, if_pos h3, if_pos h3]; rfl
   ·rw [BE w.o (w.fmt hk) h2 h3, if_neg h3, if_neg h3, PS]
noncomputable abbrev KS : List Sf := (qo 225).body
noncomputable abbrev YI : Expr := sE (sB KS 2 0) 0 0 []
noncomputable abbrev wu (T : Nat) (kd : Int) (nm : Str) (t : Loc) : LE := ⟨qm 225, ("table", .loc T) :: ("kind", .int kd) :: ("name", .str nm) :: t⟩
noncomputable abbrev XD : q8 := .list [.int 1, .int 0, .int 3]
noncomputable def kt : Option (Str × PV) -> Loc
 | none => []
 | some e => [("key", .str e.1), ("text", e.2)]
noncomputable abbrev DX (kd : Int) (o : Option (Str × PV)) : LE := ⟨(LE.comp (wu 0 0 nm []) (lcN YI)).sc, ("kind", .int kd) :: kt o⟩
def Vx (kd q : Int) : Prop := ∀ ν : q4, za (.loc ν.length) (.int (kd - 6)) (ν ++ [XD]) = some (.ok (.int q), ν ++ [XD])
theorem Hy {o : Option (Str × PV)} {e : Str × PV} : qu (DX (nm := nm) kd o) (qt YI) (qB e) = some (DX (nm := nm) kd (some e)) := by
 induction o <;> kernel_rfl
theorem Ll {e : Str × PV} (hp : Vx kd q) (h1 : e.1.length <= 1000) (h2 : WOK e.2) (hq : q ≠ 2) : (evN ftT (n + 40)).ev (DX (nm := nm) kd (some e)) (lcE YI) μ = some (.ok (.str (wr e.1 e.2 q)), μ ++ [XD] ++ wrJ e.2 q) := by
 have hq := fun n => WP (n := n) (μ := μ ++ [XD]) h1 h2 (.inl hq)
 exact xO [.d, .d, .d, .d, .d, fV (hp μ), fV (hq (n + 9))] (by kernel_rfl)
theorem DD (hp : Vx kd q) (hq : q ≠ 2) (hm : q5 μ m = some (es.map qB)) (hr : es.length <= Pr) (hw : ∀ e ∈ es, e.1.length <= 1000 /\ WOK e.2) :
 ∃ J', qF (evN ftT (n + 40)) (LE.comp (wu T kd nm [("rows", .loc a)]) (lcN YI)) (lcE YI) (qt YI) (qD YI) (.list m, es.length + 1) μ = some (.ok (.loc (μ ++ J').length), μ ++ J' ++ [.list (es.map fun e => .str (wr e.1 e.2 q))]) :=
 yl (Inv := fun σ => ∃ o, σ = DX (nm := nm) kd o) (by kernel_rfl) qB (vn hm) (fun σ e J ⟨o, ho⟩ he => ⟨_, [XD] ++ wrJ e.2 q, ho ▸ Hy, ⟨_, rfl⟩, by
  rw [<- PH J, <- PH μ, <- PH μ]
  exact Ll hp (hw e he).1 (hw e he).2 hq⟩) ⟨none, by kernel_rfl⟩ hr
end
theorem WX {m : SR'} {σ : LE} {μ : q4} {p : PV} (h : m = some (.ok (.ret p), σ, μ)) : zX m = some (.ok p, μ) := h ▸ rfl
noncomputable def put (rows : Ps) (nm v : Str) : Ps := qd rows (Pt nm) ++ [(nm, v)]
noncomputable def xW : Str := ", ,\t"
noncomputable def bl8 : Str := " "
noncomputable def FK : Str := "\t,,"
noncomputable def j9 (ws : List Str) : Str := bl8 ++ PW xW ws ++ FK
noncomputable def yz (rs : List Str) (q : Int) : List Str := ((qz rs).map ent).map fun e => wr e.1 e.2 q
section
variable {n T d H a m : Nat} {nm v : Str} {q kd : Int} {t : Bool} {i j : Int} {μ ν : q4} {rows : Ps} {l ws : List Str}
theorem Oc (h : i > j) : qY .Gt (.int i) (.int j) μ = some (.ok (.bool true), μ) := by
 show some (Rs (PV.bool (decide (i > j))), μ) = _
 rw [decide_eq_true h]
theorem Mo (h : ¬ i > j) : qY .Gt (.int i) (.int j) μ = some (.ok (.bool false), μ) := by
 show some (Rs (PV.bool (decide (i > j))), μ) = _
 rw [decide_eq_false h]
theorem Ze (hm : q5 ν a = some (l.map .str)) (h : ∀ y ∈ l, Pz y = true) (ht : l.isEmpty = t) : qY .NotEq (.loc a) (.loc ν.length) (ν ++ [.list []]) = some (.ok (.bool (!t)), ν ++ [.list []]) := by
 have e : jd (ν ++ [.list []]) (.loc ν.length) = some (.list []) := jc (l := []) q6 (fun zz q => nomatch q)
 show (peq _ _ _).map _ = _
 unfold peq
 rw [jc (qc hm) h, e, <- ht]
 induction l <;> rfl
structure TN (rows : Ps) (nm : Str) : Prop where
 n : kW nm
 b : bad true nm = false
 r : rows.length <= 100000
 k : ∀ kv ∈ rows, KeyOK kv.1
theorem TN.two (h : TN rows nm) : rows.length + rows.length <= Pr := Pq (RP h.r h.r) (by decide)
theorem TN.three (h : TN rows nm) : rows.length + rows.length + 1 <= Pr := Pq (Rb (RP h.r h.r)) (by decide)
theorem TN.one (h : TN rows nm) : rows.length <= Pr := Pq h.r (by decide)
theorem Xl (t : Tab μ T d H rows) (h : TN rows nm) (hv : bad false v = false) : (evN ftT (n + 30)).call 102 [.loc T, .str nm, .str v] [] μ = some (.ok .none, qj μ H (rw' (put rows nm v)) ++ [rw' (qd rows (Pt nm))]) := by
 rw [Zx t h.n h.b h.three h.k, hv]; rfl
noncomputable abbrev W0 (n T : Nat) (kd : Int) (nm : Str) (a : Nat) (μ : q4) : PR PV := zX ((evN ftT (n + 89)).ex (wu T kd nm [("rows", .loc a)]) (KS.drop 3) μ)
theorem Ok (t : Tab μ T d H rows) (hm : q5 μ a = some ([].map .str)) (h6 : kd ≠ 6) : W0 n T kd nm a μ = some (.ok (.loc T), μ ++ [.list []]) := by
 refine WX (σ := wu T kd nm [("rows", .loc a)]) ?_
 exact ql [fV (qE (μ := μ) h6), .d, .d, .d, fV (Ze (t := true) hm (fun zz h => nomatch h) rfl)] (by kernel_rfl)
theorem Hb (t : Tab μ T d H rows) (h : TN rows nm) (hm : q5 μ a = some (ws.map .str)) (hok : ∀ y ∈ ws, Pz y = true) (he : ws.isEmpty = false) (h6 : kd ≠ 6) (h8 : kd ≠ 8) (hj : (Ur qM ws && decide ((PW qM ws).length <= Pr)) = true) (hv : bad false (PW qM ws) = false) :
 W0 n T kd nm a μ = some (.ok (.loc T), qj (μ ++ [.list []]) H (rw' (put rows nm (PW qM ws))) ++ [rw' (qd rows (Pt nm))]) := by
 have t' := t.app (J := [.list []])
 refine WX (σ := wu T kd nm [("rows", .loc a)]) ?_
 exact ql [fV (qE (μ := μ) h6), .d, .d, .d, fV (Ze (t := false) hm hok he), fV (qE (μ := μ ++ [q8.list []]) h8), fV (y9 (μ := μ ++ [.list []]) (qc hm) hj), fI (t'.i), fV ((fun n => Xl (n := n) t' h hv) (n + 56))] (by kernel_rfl)
theorem Mn (t : Tab μ T d H rows) (h : TN rows nm) (hm : q5 μ a = some (ws.map .str)) (hok : ∀ y ∈ ws, Pz y = true) (he : ws.isEmpty = false) (h6 : kd ≠ 6) (h8 : kd = 8) (hj : (Ur xW ws && decide ((PW xW ws).length <= Pr)) = true) (hl : (PW xW ws).length <= 1000000) (hv : bad false (j9 ws) = false) :
 W0 n T kd nm a μ = some (.ok (.loc T), qj (μ ++ [.list []]) H (rw' (put rows nm (j9 ws))) ++ [rw' (qd rows (Pt nm))]) := by
 have t' := t.app (J := [.list []])
 have c1 : (bl8 ++ PW xW ws).length <= Pr := fit (jQ (PK 1) hl) (by decide)
 have c2 : (bl8 ++ PW xW ws ++ FK).length <= Pr := fit (jQ (jQ (PK 1) hl) (PK 3)) (by decide)
 refine WX (σ := wu T kd nm [("rows", .loc a)]) ?_
 exact ql [fV (qE (μ := μ) h6), .d, .d, .d, fV (Ze (t := false) hm hok he), fV (jz (μ := μ ++ [q8.list []]) h8), fV (y9 (μ := μ ++ [.list []]) (qc hm) hj), fV (jt (μ := μ ++ [q8.list []]) c1), fV (jt (μ := μ ++ [q8.list []]) c2), fI (t'.i), fV ((fun n => Xl (n := n) t' h hv) (n + 56))] (by kernel_rfl)
noncomputable abbrev PX (n T d H : Nat) (kd : Int) (nm : Str) (μ : q4) (rows : Ps) : Prop := ∃ ν, (evN ftT (n + 90)).call 225 [.loc T, .int kd, .str nm] [] μ = some (.ok (.loc T), ν) /\ qi μ H ν /\ Tab ν T d H rows
noncomputable abbrev PA (n T d H : Nat) (kd : Int) (nm : Str) (μ : q4) (rows : Ps) (ws : List Str) : Prop := ∃ ν a, (evN ftT (n + 89)).ex (wu T kd nm []) (KS.take 3) μ = some (.ok .next, wu T kd nm [("rows", .loc a)], ν) /\ qi μ H ν /\ Tab ν T d H rows /\ q5 ν a = some (ws.map .str) /\ μ.length <= a
theorem P9 (t : Tab μ T d H rows) (h : TN rows nm) (hk : kd = 5) : PA n T d H kd nm μ rows (q7 rows (Pt nm)) := by
 have hr := h.one
 have hn := h.n
 have hrl := h.k
 have h9 : kd ≠ 9 := hk ▸ (by decide)
 have h5 : ¬ kd > 5 := by rw [hk]; decide
 refine ⟨μ ++ [ls (q7 rows (Pt nm))], μ.length, ?_, qi.app, t.app, q6, PK _⟩
 exact ql [fV (qE (μ := μ) h9), fI (t.i), .c (t.ok rfl : qn μ d (Pv "get_all") = true), fV (gb (n := n + 67) t hn hr hrl), fV (Mo (μ := μ ++ [ls (Rm (fun x => Rh x) (List.filter (fun kv => Pt (RN kv) == Pt nm) rows))]) h5)] (by kernel_rfl)
theorem L8 (t : Tab μ T d H rows) (h : TN rows nm) (k : JP rows nm) (h9 : kd ≠ 9) (h5 : kd > 5) (hp : Vx kd q) (hq : q ≠ 2) (hw : ∀ e ∈ told rows nm, e.1.length <= 1000 /\ WOK e.2) :
 PA n T d H kd nm μ rows (yz (q7 rows (Pt nm)) q) := by
 have hr := h.one
 have hn := h.n
 have hrl := h.k
 obtain ⟨J1, h215⟩ := Wg (n := n + 25) (t.app (J := [ls (q7 rows (Pt nm))])) k
 obtain ⟨J2, hc⟩ := DD (n := n + 46) (T := T) (nm := nm) (a := μ.length) (μ := μ ++ [ls (q7 rows (Pt nm))] ++ pl (told rows nm) :: J1) hp hq vV (by rw [PJ]; exact Pq k.hin (by decide)) hw
 have hs := qK (μ := μ ++ [ls (q7 rows (Pt nm))] ++ pl (told rows nm) :: J1) vV
 rw [PJ] at hs
 have e : (q8.list ((told rows nm).map fun e => .str (wr e.1 e.2 q))) = ls (yz (q7 rows (Pt nm)) q) := by
  exact congrArg q8.list (Su (g := PV.str) (f := fun e : Str × PV => wr e.1 e.2 q) (l := told rows nm)).symm
 rw [e] at hc
 have e2 : μ ++ [ls (q7 rows (Pt nm))] ++ pl (told rows nm) :: J1 ++ J2 ++ [ls (yz (q7 rows (Pt nm)) q)] = μ ++ ([ls (q7 rows (Pt nm))] ++ pl (told rows nm) :: J1 ++ J2 ++ [ls (yz (q7 rows (Pt nm)) q)]) := by
  rw [PH, PH, PH, PH, PH]
 refine ⟨μ ++ [ls (q7 rows (Pt nm))] ++ pl (told rows nm) :: J1 ++ J2 ++ [ls (yz (q7 rows (Pt nm)) q)], (μ ++ [ls (q7 rows (Pt nm))] ++ pl (told rows nm) :: J1 ++ J2).length, ?_, e2 ▸ qi.app, t.app.app.app.app, q6, ?_⟩
 ·exact ql [fV (qE (μ := μ) h9), fI (t.i), .c (t.ok rfl : qn μ d (Pv "get_all") = true), fV (gb (n := n + 67) t hn hr hrl), fV (Oc (μ := μ ++ [ls (Rm (fun x => Rh x) (List.filter (fun kv => Pt (RN kv) == Pt nm) rows))]) h5), fV (h215), fR (hs), fV (hc)] (by kernel_rfl)
 ·rw [PB, PB, PB, A5, A5]; exact Rd ..
end
theorem NU : (ftT 225).isSome = true := by kernel_rfl
section
variable {n T d H a m : Nat} {nm v r : Str} {q kd : Int} {μ ν : q4} {rows rows' : Ps} {ws : List Str}
theorem Lp : jB 225 (qo 225) [.loc T, .int kd, .str nm] [] μ = some (wu T kd nm [], μ) := by kernel_rfl
theorem Vb (hA : PA n T d H kd nm μ rows ws) (hB : ∀ ν a, Tab ν T d H rows -> q5 ν a = some (ws.map .str) -> μ.length <= a -> ∃ ν', W0 n T kd nm a ν = some (.ok (.loc T), ν') /\ qi ν H ν' /\ Tab ν' T d H rows') : PX n T d H kd nm μ rows' := by
 obtain ⟨ν, a, h1, h2, h3, h4, h5⟩ := hA
 obtain ⟨ν', q1, q2, q3⟩ := hB ν a h3 h4 h5
 refine ⟨ν', ?_, h2.trans q2 (.inl rfl), q3⟩
 rw [qX NU Lp, BJ 3 h1]; exact q1
theorem B9 {x : Str} {J : q4} (t : Tab μ T d H rows) (hm : q5 μ a = some (ws.map .str)) (h6 : kd ≠ 6) (hx : ws.isEmpty = false -> W0 n T kd nm a μ = some (.ok (.loc T), qj (μ ++ [.list []]) H (rw' (put rows nm x)) ++ J)) :
 ∃ ν', W0 n T kd nm a μ = some (.ok (.loc T), ν') /\ qi μ H ν' /\ Tab ν' T d H (if ws = [] then rows else put rows nm x) := by
 induction ws using PD with
 | nil => rw [if_pos rfl]; exact ⟨_, Ok t hm h6, qi.app, t.app⟩
 | cons w ws => rw [if_neg (nofun)]; exact ⟨_, hx rfl, qi.trans qi.app qi.set (.inl rfl), t.app.set.app⟩
structure JW (ws : List Str) : Prop where
 o : ∀ r ∈ ws, Pz r = true
 n : ws.length <= 1000
 s : (ws.map (·.length)).sum <= 100000
theorem JW.j (j : JW ws) {sep : Str} (hs : sep.length <= 4) : (Ur sep ws && decide ((PW sep ws).length <= Pr)) = true /\ (PW sep ws).length <= 1000000 := by
 have h1 := j.s
 have h2 := AM j.n hs
 exact ⟨yB (Pq (RP h1 h2) (by decide)), Pq yW (Pq (RP h1 h2) (by decide))⟩
theorem HP (t : Tab μ T d H rows) (h : TN rows nm) (hok : ∀ r ∈ q7 rows (Pt nm), Pz r = true) (hj : XY (q7 rows (Pt nm))) (hv : bad false (PW qM (q7 rows (Pt nm))) = false) :
 PX n T d H 5 nm μ (if q7 rows (Pt nm) = [] then rows else put rows nm (PW qM (q7 rows (Pt nm)))) :=
 Vb (P9 t h rfl) fun zz zz t' hm zz => B9 t' hm (by decide) fun he => Hb t' h hm hok he (by decide) (by decide) hj.j hv
theorem Ma : Vx 7 0 := fun ν => by
 show (q5 (ν ++ [XD]) ν.length).bind _ = _
 rw [q6]; rfl
theorem MP : Vx 8 3 := fun ν => by
 show (q5 (ν ++ [XD]) ν.length).bind _ = _
 rw [q6]; rfl
theorem NV : Vx 6 1 := fun ν => by
 show (q5 (ν ++ [XD]) ν.length).bind _ = _
 rw [q6]; rfl
theorem M2 (t : Tab μ T d H rows) (h : TN rows nm) (k : JP rows nm) (hw : ∀ e ∈ told rows nm, e.1.length <= 1000 /\ WOK e.2) (j : JW (yz (q7 rows (Pt nm)) 0)) (hv : bad false (PW qM (yz (q7 rows (Pt nm)) 0)) = false) :
 PX n T d H 7 nm μ (if yz (q7 rows (Pt nm)) 0 = [] then rows else put rows nm (PW qM (yz (q7 rows (Pt nm)) 0))) :=
 Vb (L8 t h k (by decide) (by decide) Ma (by decide) hw) fun zz zz t' hm zz => B9 t' hm (by decide) fun he => Hb t' h hm j.o he (by decide) (by decide) (j.j (by decide)).1 hv
theorem HY (t : Tab μ T d H rows) (h : TN rows nm) (k : JP rows nm) (hw : ∀ e ∈ told rows nm, e.1.length <= 1000 /\ WOK e.2) (j : JW (yz (q7 rows (Pt nm)) 3)) (hv : bad false (j9 (yz (q7 rows (Pt nm)) 3)) = false) :
 PX n T d H 8 nm μ (if yz (q7 rows (Pt nm)) 3 = [] then rows else put rows nm (j9 (yz (q7 rows (Pt nm)) 3))) :=
 Vb (L8 t h k (by decide) (by decide) MP (by decide) hw) fun zz zz t' hm zz => B9 t' hm (by decide) fun he => Mn t' h hm j.o he (by decide) rfl (j.j (by decide)).1 (j.j (by decide)).2 hv
noncomputable abbrev b6 : List Sf := sB KS 3 0
noncomputable abbrev S6 (T : Nat) (kd : Int) (nm : Str) (a : Nat) (o : Option PV) : LE := wu T kd nm (("rows", .loc a) :: Qw "row" o)
theorem t6 (t : Tab μ T d H rows) (hb : bad true nm = false) (hs : bad false r = false) (hl : r.length <= 100000) (hr : rows.length + 1 <= Pr) : ∃ J, (evN ftT (n + 50)).ex (S6 T kd nm a (some (.str r))) (qV b6) μ = some (.ok .next, S6 T kd nm a (some (.str r)), qj μ H (rw' (rows ++ [(nm, r)])) ++ J) := by
 obtain ⟨J, h⟩ := F3 (n := n + 8) t hb hs hl hr
 refine ⟨J, ?_⟩
 exact ql [fI (t.i), .c (t.ok rfl : qn μ d (Pv "add_header") = true), fV (h)] (by kernel_rfl)
theorem P7 {o : Option PV} {p : PV} : qu (S6 T kd nm a o) (y5 b6) p = some (S6 T kd nm a (some p)) := by
 induction o <;> kernel_rfl
structure P6 (μ : q4) (T d H a : Nat) (nm : Str) (rows : Ps) (ws : List Str) (i : Nat) (x : Option PV × q4) : Prop where
 k : qi μ H x.2
 t : Tab x.2 T d H (rows ++ (ws.take i).map fun r => (nm, r))
 p : q5 x.2 a = some (ws.map .str)
theorem Na (t : Tab μ T d H rows) (hb : bad true nm = false) (hv : ∀ r ∈ ws, bad false r = false /\ r.length <= 100000) (hm : q5 μ a = some (ws.map .str)) (hne : a ≠ H) (hr : rows.length + ws.length <= Pr) :
 ∃ o ν, zQ (evN ftT (n + 50)) (.list a) (y5 b6) (qV b6) (ws.length + 1) 0 (S6 T kd nm a none) μ = some (.ok .next, S6 T kd nm a o, ν) /\ qi μ H ν /\ Tab ν T d H (rows ++ ws.map fun r => (nm, r)) := by
 refine xu (N := ws.length) (S := fun x : Option PV × q4 => S6 T kd nm a x.1) (M := fun x => x.2) (P := P6 μ T d H a nm rows ws) (Q := fun R => ∃ o ν, R = some (.ok .next, S6 T kd nm a o, ν) /\ qi μ H ν /\ Tab ν T d H (rows ++ ws.map fun r => (nm, r))) (a := (none, μ)) (fun i x hi h => ?_) (fun x h => ⟨?_, x.1, x.2, rfl, h.k, ?_⟩) ⟨⟨PK _, fun zz zz zz => rfl⟩, by rw [List.take_zero, Al, PS]; exact t, hm⟩
 ·have g := hv _ (Rx hi)
  obtain ⟨J, ht⟩ := t6 (n := n) (kd := kd) (a := a) h.t hb g.1 g.2 (by rw [PB, PJ, T9]; exact Pq (So (Nat.succ_le_of_lt (RI (TZ ..) hi)) _) hr)
  refine ⟨.str ws[i], _, ?_, P7, .inl ⟨.next, (some (.str ws[i]), _), .inl rfl, ht, h.k.trans qi.set (.inl rfl), ?_, (qi.set (μ := x.2)).list h.p hne⟩⟩
  ·rw [qG h.p, PY hi]; rfl
  ·rw [SY hi, Rt, <- PH]; exact h.t.set.app
 ·rw [qG h.p, RC (PK _)]; rfl
 ·have ht := h.t
  rwa [bC] at ht
theorem Mq (t : Tab μ T d H rows) (h : TN rows nm) (hm : q5 μ a = some (ws.map .str)) (hne : a ≠ H) (h6 : kd = 6) (hv : ∀ r ∈ ws, bad false r = false /\ r.length <= 100000) (hr : rows.length + ws.length <= Pr) :
 ∃ ν', W0 n T kd nm a μ = some (.ok (.loc T), ν') /\ qi μ H ν' /\ Tab ν' T d H (qd rows (Pt nm) ++ ws.map fun r => (nm, r)) := by
 have h107 := fun n => Jw (n := n) t h.n h.two h.k
 have t1 := (t.set (rows' := qd rows (Pt nm))).app (J := [rw' (qd rows (Pt nm))])
 have k1 : qi μ H (qj μ H (rw' (qd rows (Pt nm))) ++ [rw' (qd rows (Pt nm))]) := qi.set
 have hm1 := k1.list hm hne
 obtain ⟨o, ν, hl, k2, t2⟩ := Na (n := n + 37) (kd := kd) t1 h.b hv hm1 hne (Pq (RX zO _) hr)
 have hs := qK hm1
 rw [PJ] at hs
 refine ⟨ν, WX (σ := S6 T kd nm a o) ?_, k1.trans k2 (.inl rfl), t2⟩
 exact ql [fV (jz (μ := μ) h6), fI (t.i), fV (h107 (n + 67)), fR (hs), fS (hl)] (by kernel_rfl)
theorem It (t : Tab μ T d H rows) (h : TN rows nm) (k : JP rows nm) (hw : ∀ e ∈ told rows nm, e.1.length <= 1000 /\ WOK e.2) (hv : ∀ r ∈ yz (q7 rows (Pt nm)) 1, bad false r = false /\ r.length <= 100000) (hr : rows.length + (yz (q7 rows (Pt nm)) 1).length <= Pr) :
 PX n T d H 6 nm μ (qd rows (Pt nm) ++ (yz (q7 rows (Pt nm)) 1).map fun r => (nm, r)) :=
 Vb (L8 t h k (by decide) (by decide) NV (by decide) hw) fun zz zz t' hm ha => Mq t' h hm (RZ (PZ t.lt ha)) rfl hv hr
end
noncomputable def Wk : Str := ": "
theorem Bo : Js = Wk := by kernel_rfl
theorem K5 : Wk.cps.toList = 58 :: [32] := by kernel_rfl
theorem GI : gQ.cps.toList = 13 :: [10] := by kernel_rfl
theorem Kw {kv : Str × Str} (h : 58 ∉ kv.1.cps.toList) : TA (line kv) Wk 1 = [kv.1, kv.2] := by
 unfold line
 rw [Bo, qh]
 exact QL K5 (by kernel_rfl) h
noncomputable def swp (kv : Str × Str) : Str × Str := (Sk kv.1, kv.2)
structure R9 (kv : Str × Str) : Prop where
 l1 : kv.1.length <= 1000
 l2 : kv.2.length <= 100000
 c : 58 ∉ kv.1.cps.toList
 r1 : 13 ∉ kv.1.cps.toList
 r2 : 13 ∉ kv.2.cps.toList
 s : (Sk kv.1).length <= 1000
 b1 : bad true (Sk kv.1) = false
 b2 : bad false kv.2 = false
section
variable {n T d H a m : Nat} {nm x k : Str} {μ ν : q4} {rows : Ps} {l : List Str} {kv : Str × Str} {b c : PV}
theorem BW (h : R9 kv) : (line kv).length <= 200000 := Pq (jQ (jQ h.l1 (PK 2)) h.l2) (by decide)
theorem LG (h : R9 kv) : jW (line kv) "split" [.str ": ", .int 1] μ = some (.ok (.loc μ.length), μ ++ [ls [kv.1, kv.2]]) := by
 show (if decide (16000000 < (line kv).length) = true then none else jr ((TA (line kv) Wk 1).map .str) μ) = _
 have := BW h
 rw [if_neg (by rw [decide_eq_true_iff]; lia), Kw h.c]
 exact ji Bq
theorem Cw (hx : x.length <= 16000000) (hl : (SF x gQ).length <= Pr) : jW x "split" [.str "\r\n"] μ = some (.ok (.loc μ.length), μ ++ [ls (SF x gQ)]) := by
 show (if decide (16000000 < x.length) = true then none else jr ((SF x gQ).map .str) μ) = _
 rw [if_neg (by rw [decide_eq_true_iff]; lia)]
 exact ji (by rw [PJ]; exact hl)
theorem HK (hm : q5 μ a = some (l.map .str ++ [b, c])) (hl : l.length <= 100000) : wM (.loc a) none (some (.int (-2))) μ = some (.ok (.loc μ.length), μ ++ [ls l]) := by
 show (q5 μ a).bind _ = _
 rw [hm]
 refine (if_pos (by rw [PB, PJ]; exact Pq (RX hl 2) (by decide))).trans ?_
 rw [B3]
 exact ji (by rw [PJ]; exact Pq hl (by decide))
theorem Jy (h : (Sk k).length <= 1000) : j0 (.str k) "swapcase" [] μ = some (.ok (.str (Sk k)), μ) := j1 (Pq h (by decide))
theorem Me {l : List PV} (h : q5 μ m = some (b :: c :: l)) : za (.loc m) (.int 1) μ = some (.ok c, μ) := by
 show (q5 μ m).bind _ = _
 rw [h]; rfl
noncomputable abbrev b9 : List Sf := sB KS 0 0
noncomputable abbrev e9a : Expr := sE b9 0 0 []
noncomputable abbrev e9b : Expr := sE b9 1 0 [1]
noncomputable abbrev C9a (o : Option PV) : LE := ⟨(LE.comp (wu 0 0 nm []) (lcN e9a)).sc, Qw "line" o⟩
noncomputable abbrev C9b (o : Option PV) : LE := ⟨(LE.comp (wu 0 0 nm []) (lcN e9b)).sc, Qw "line" o⟩
theorem ME {o : Option PV} {v : PV} : qu (C9a (nm := nm) o) (qt e9a) v = some (C9a (nm := nm) (some v)) := by induction o <;> kernel_rfl
theorem O0 {o : Option PV} {v : PV} : qu (C9b (nm := nm) o) (qt e9b) v = some (C9b (nm := nm) (some v)) := by induction o <;> kernel_rfl
theorem Np (h : R9 kv) : (evN ftT (n + 6)).ev (C9a (nm := nm) (some (.str (line kv)))) (lcE e9a) μ = some (.ok (.loc μ.length), μ ++ [ls [kv.1, kv.2]]) := by
 exact xO [fV (LG (μ := μ) h)] (by kernel_rfl)
theorem MZ (h : R9 kv) (hm : q5 μ m = some [.str kv.1, .str kv.2]) : (evN ftT (n + 6)).ev (C9b (nm := nm) (some (.loc m))) (lcE e9b) μ = some (.ok (row (swp kv)), μ) := by
 have hs := Jy (μ := μ) h.s
 exact xO [fV (v9 hm), fV (hs), fV (Me hm)] (by kernel_rfl)
def R9s (ν : q4) (kv : Str × Str) (y : PV) : Prop := ∃ a, y = .loc a /\ q5 ν a = some [.str kv.1, .str kv.2]
theorem Lq (hm : q5 μ m = some ((rows.map line).map .str)) (hr : rows.length <= Pr) (h : ∀ kv ∈ rows, R9 kv) :
 ∃ (zs : List ((Str × Str) × PV)) (J : q4), qF (evN ftT (n + 6)) (LE.comp (wu T 9 nm []) (lcN e9a)) (lcE e9a) (qt e9a) (qD e9a) (.list m, rows.length + 1) μ = some (.ok (.loc (μ ++ J).length), μ ++ J ++ [.list (zs.map Rh)]) /\ zs.map RN = rows /\ ∀ z ∈ zs, R9s (μ ++ J) z.1 z.2 := by
 rw [Su] at hm
 obtain ⟨zs, J, h1, h2, h3⟩ := gI (r := evN ftT (n + 6)) (target := qt e9a) (elt := lcE e9a) (ifs := qD e9a) (μ := μ) (Inv := fun σ => ∃ o, σ = C9a (nm := nm) o) (R := R9s) (by kernel_rfl) (fun kv => .str (line kv)) (fun ν J kv y ⟨a, e, h⟩ => ⟨a, e, qc h⟩) (vn hm)
  (fun σ kv J ⟨o, ho⟩ hk => ⟨_, .loc (μ ++ J).length, [ls [kv.1, kv.2]], ho ▸ ME, ⟨_, rfl⟩, by rw [<- PH]; exact Np (h kv hk), ⟨_, rfl, by rw [<- PH]; exact q6⟩⟩) (rows.length + 1) 0 (LE.comp (wu T 9 nm []) (lcN e9a)) [] ⟨none, by kernel_rfl⟩ rfl (Rj _)
 rw [PS, U3] at h1
 rw [U3] at h3
 rw [Ad] at h2
 refine ⟨zs, J, qA h1 ?_, h2, h3⟩
 rw [PJ, <- PJ (f := RN), h2]; exact hr
theorem LK {zs : List ((Str × Str) × PV)} (hm : q5 μ m = some (zs.map Rh)) (hz : zs.map RN = rows) (hr : rows.length <= Pr) (h : ∀ kv ∈ rows, R9 kv) (hR : ∀ z ∈ zs, R9s μ z.1 z.2) :
 qF (evN ftT (n + 6)) (LE.comp (wu T 9 nm [("lines", .loc a)]) (lcN e9b)) (lcE e9b) (qt e9b) (qD e9b) (.list m, (zs.map Rh).length + 1) μ = some (.ok (.loc μ.length), μ ++ [rw' (rows.map swp)]) := by
 have q := qU (r := evN ftT (n + 6)) (target := qt e9b) (elt := lcE e9b) (ifs := qD e9b) (μ := μ) (f := fun z : (Str × Str) × PV => row (swp z.1)) (g := fun zz => true) (Inv := fun σ => ∃ o, σ = C9b (nm := nm) o) Rh (qG hm)
  (fun σ z ⟨o, ho⟩ hk => ⟨_, ho ▸ O0, ⟨_, rfl⟩, by kernel_rfl, fun zz => by
    obtain ⟨a, e, ha⟩ := hR z hk
    rw [e]
    exact MZ (h _ (hz ▸ RS hk)) ha⟩) (zs.length + 1) 0 (LE.comp (wu T 9 nm [("lines", .loc a)]) (lcN e9b)) ⟨none, by kernel_rfl⟩ rfl (Rj _)
 rw [zy] at q
 have e : (zs.drop 0).map (fun z => row (swp z.1)) = (rows.map swp).map row := by
  rw [Ad, Su, <- hz, Su]; rfl
 rw [e] at q
 rw [PJ]
 exact qA q (by rw [PJ, PJ]; exact hr)
theorem IS (hm : q5 μ H = some (rows.map row)) (hg : ∀ kv ∈ rows, bad true kv.1 = false /\ bad false kv.2 = false) : J7 (evN ftT (n + 40)) [.loc H] μ = some (.ok (.loc (μ.length + 1)), ntS μ [("_headers", .loc H)] []) := by
 show qa ((evN ftT (n + 40)).call 81 [.loc (μ.length + 1), .loc H] [] (ntS μ [] [])) _ = _
 rw [C1 hm hg]; rfl
theorem LR : J7 (evN ftT (n + 40)) [] μ = some (.ok (.loc (μ.length + 1)), ntS μ [("_headers", .loc (μ.length + 2))] [.list []]) := by
 show qa ((evN ftT (n + 40)).call 81 [.loc (μ.length + 1)] [] (ntS μ [] [])) _ = _
 rw [DZ]; rfl
theorem QY (h : ∀ kv ∈ rows, R9 kv) : SF (PW gQ (xq rows)) gQ = xq rows := by
 have hf : ∀ q ∈ xq rows, 13 ∉ q.cps.toList := by
  intro q hq
  rcases PU.mp hq with hq | hq
  ·obtain ⟨kv, hk, rfl⟩ := Ri.mp hq
   have g := h kv hk
   unfold line
   rw [qr, qr]
   intro hc
   rcases PU.mp hc with hc | hc
   ·exact (PU.mp hc).elim g.r1 (by decide)
   ·exact g.r2 hc
  ·rw [(List.eq_of_mem_replicate (n := 2) hq : q = PF)]; exact fun h => nomatch h
 induction hL : xq rows using PD with
 | nil => exact absurd hL (by induction rows <;> exact nofun)
 | cons p l => exact Yd GI (by kernel_rfl) (hL ▸ hf)
theorem Ly (t : Tab μ T d H rows) (hr : rows.length <= 1000) (h : ∀ kv ∈ rows, R9 kv) (hsum : ((rows.map line).map (·.length)).sum <= 500000) :
 ∃ ν T' d' H', (evN ftT (n + 90)).call 225 [.loc T, .int 9, .str nm] [] μ = some (.ok (.loc T'), ν) /\ qi μ H ν /\ Tab ν T' d' H' (rows.map swp) /\ μ.length <= H' := by
 have hn : (xq rows).length <= 1002 := by rw [PB, PJ]; exact RX hr 2
 have hs : ((xq rows).map (·.length)).sum <= 500000 := by rw [Rt, bO]; exact hsum
 have hc : ((xq rows).map (·.length)).sum + (xq rows).length * gQ.length <= 600000 := Pq (RP hs (AM hn (PK 2))) (by decide)
 have h163 := fun n => CB (n := n) t (Pq (RX hr 2) (by decide)) (fun kv hk => ⟨Pq (h kv hk).l1 (by decide), Pq (h kv hk).l2 (by decide)⟩) (yB (Pq hc (by decide)))
 have hsp := fun μ => Cw (μ := μ) (Pq (yW (sep := gQ) (l := xq rows)) (Pq hc (by decide))) (by rw [QY h]; exact Pq hn (by decide))
 rw [QY h] at hsp
 have e1 : (xq rows).map PV.str = (rows.map line).map .str ++ [.str PF, .str PF] := Rt
 have hk : qi μ H (μ ++ [ls (rows.map line)] ++ [ls [PF, PF]] ++ [ls (xq rows)] ++ [ls (xq rows)] ++ [ls (rows.map line)]) := qi.trans qi.app (qi.trans qi.app (qi.trans qi.app (qi.trans qi.app qi.app (.inl rfl)) (.inl rfl)) (.inl rfl)) (.inl rfl)
 generalize hA : μ ++ [ls (rows.map line)] ++ [ls [PF, PF]] ++ [ls (xq rows)] = A at *
 have hspA := hsp A
 have hsl := HK (μ := A ++ [ls (xq rows)]) (a := A.length) (l := rows.map line) (q6.trans (congrArg some e1)) (by rw [PJ]; exact Pq hr (by decide))
 have hm : q5 (A ++ [ls (xq rows)] ++ [ls (rows.map line)]) (A ++ [ls (xq rows)]).length = some ((rows.map line).map .str) := q6
 generalize hB : A ++ [ls (xq rows)] = B at *
 have hs2 := qK hm
 rw [PJ, PJ] at hs2
 have hr' : rows.length <= Pr := Pq hr (by decide)
 obtain ⟨zs, J, ha, hz, hR⟩ := Lq (n := n + 80) (T := T) (nm := nm) hm hr' h
 have hm2 : q5 (B ++ [ls (rows.map line)] ++ J ++ [.list (zs.map Rh)]) (B ++ [ls (rows.map line)] ++ J).length = some (zs.map Rh) := q6
 have hR2 : ∀ z ∈ zs, R9s (B ++ [ls (rows.map line)] ++ J ++ [.list (zs.map Rh)]) z.1 z.2 := fun z hz' => (hR z hz').elim fun a q => ⟨a, q.1, qc q.2⟩
 have hk2 : qi μ H (B ++ [ls (rows.map line)] ++ J ++ [.list (zs.map Rh)]) := hk.trans (qi.trans qi.app qi.app (.inl rfl)) (.inl rfl)
 generalize hm0 : (B ++ [ls (rows.map line)] ++ J).length = m at *
 generalize hD : B ++ [ls (rows.map line)] ++ J ++ [q8.list (zs.map Rh)] = D at *
 have hb := fun n => LK (n := n) (T := T) (nm := nm) (a := m) hm2 hz hr' h hR2
 have hmk := fun n => IS (n := n) (μ := D ++ [rw' (rows.map swp)]) q6 fun kv hk => by
  obtain ⟨x, hx, rfl⟩ := Ri.mp hk
  exact ⟨(h x hx).b1, (h x hx).b2⟩
 refine ⟨ntS (D ++ [rw' (rows.map swp)]) [("_headers", .loc D.length)] [], (D ++ [rw' (rows.map swp)]).length + 1, (D ++ [rw' (rows.map swp)]).length, D.length, ?_, hk2.trans (qi.trans qi.app qi.app (.inl rfl)) (.inl rfl), Jv (J := []) (qc q6), hk2.1⟩
 have h9 : (9 : Int) = 9 := rfl
 exact jv (n := n) (k := 89) [fV (jz (μ := μ) h9), fI (t.i), fV (h163 (n + 63)), fV (hspA), fV (hsl), fR (hs2), fV (ha), fR (qK hm2), fV (hb (n + 79)), fV (hmk (n + 46))] (by kernel_rfl)
end
structure St where
 kind : Nat
 name : Str
 key : Str
 text : Str
 quote : Nat
noncomputable def yu : List Str := EF.map ch ++ [44, 92, 34, 44, 92, 34, 44, 92, 34].map ch ++ [120, 39, 33, 123, 45].map ch ++ [PF, PF]
noncomputable def N4 : List Str := ["ab", "x-", "AB", "X-"]
noncomputable def vT (x : Nat) : Str := if x / 38400 % 3 = 2 then RAW.getD (x / 120 % 32 % 3) PF else yu.getD (x / 120 % 32) PF ++ TL.getD (x / 3840 % 10) PF
noncomputable def ye (x : Nat) : St := ⟨x % 10, N4.getD (x / 10 % 4) PF, K3.getD (x / 40 % 3) PF, vT x, x / 38400 % 3⟩
noncomputable def St.pv (s : St) : PV := .tup [.int s.kind, .str s.name, .str s.key, .str s.text, .int s.quote]
section
variable {n m i x : Nat} {j : Int} {μ : q4} {l : List Str} {s : Str}
theorem fdN (h : decide (0 < j /\ j.natAbs < 2 ^ 60) = true) : kK .FloorDiv (.int (m : Int)) (.int j) μ = some (.ok (.int ((m / j.toNat : Nat) : Int)), μ) := by
 have h := of_decide_eq_true h
 show (if j = 0 \/ 2 ^ 60 <= j.natAbs then none else some (Rs (PV.int (Int.fdiv (m : Int) j)), μ)) = _
 rw [if_neg fun q => q.elim (fun q => absurd h.1 (by rw [q]; decide)) fun q => absurd h.2 (Sh.mpr q)]
 have q := (Int.ofNat_fdiv m j.toNat).symm
 rw [Ux (Int.le_of_lt h.1)] at q
 rw [q]
theorem fmN (h : decide (0 < j) = true) : kK .Mod (.int (m : Int)) (.int j) μ = some (.ok (.int ((m % j.toNat : Nat) : Int)), μ) := by
 have h := of_decide_eq_true h
 show (if j = 0 then none else some (Rs (PV.int (bX (m : Int) j)), μ)) = _
 rw [if_neg fun q => absurd h (by rw [q]; decide)]
 have q := (Int.ofNat_fmod m j.toNat).symm
 rw [Ux (Int.le_of_lt h)] at q
 rw [q]
theorem vw (h : q5 μ m = some (l.map .str)) (hi : i < l.length) : za (.loc m) (.int (i : Int)) μ = some (.ok (.str (l.getD i PF)), μ) := by
 show (q5 μ m).bind _ = _
 rw [h, PL, if_pos (UI i)]
 show ((l.map PV.str)[i]?).map _ = _
 rw [SW, PY hi, S7, PY hi]; rfl
noncomputable def SGS : Str := " ()<>@,;:\\\"/[]?=" ++ aZ ",\\\"" 3 ++ "x'!{-"
noncomputable abbrev Qb : Expr := sE (qo 196).body 0 0 [0]
noncomputable abbrev Ej (o : Option PV) : LE := ⟨(LE.comp ⟨qm 196, []⟩ (lcN Qb)).sc, Qw "sign" o⟩
theorem IE {o : Option PV} {v : PV} : qu (Ej o) (qt Qb) v = some (Ej (some v)) := by induction o <;> kernel_rfl
theorem Lu {v : PV} : (evN ftT (n + 6)).ev (Ej (some v)) (lcE Qb) μ = some (.ok v, μ) := by
 exact xO [] (by kernel_rfl)
noncomputable abbrev SG0 : List PV := (SGS.cps.toList.map ch).map .str
theorem WM {v : PV} (hl : s.length <= Pr) : qF (evN ftT (n + 6)) (LE.comp ⟨qm 196, [("x", v)]⟩ (lcN Qb)) (lcE Qb) (qt Qb) (qD Qb) (.str s, s.length + 1) μ = some (.ok (.loc μ.length), μ ++ [ls (s.cps.toList.map ch)]) := by
 have h := qU (r := evN ftT (n + 6)) (target := qt Qb) (elt := lcE Qb) (ifs := qD Qb) (f := fun c => .str (ch c)) (g := fun zz => true) (Inv := fun σ => ∃ o, σ = Ej o) (fun c => .str (ch c)) (gi (s := s) (μ := μ))
  (fun σ c ⟨o, e⟩ hk => ⟨_, e ▸ IE, ⟨_, rfl⟩, by kernel_rfl, fun zz => Lu⟩) (s.length + 1) 0 (LE.comp ⟨qm 196, [("x", v)]⟩ (lcN Qb)) ⟨none, by kernel_rfl⟩ (by rw [zj]) (Rj _)
 rw [zy] at h
 refine (qA h ?_).trans ?_
 ·rw [PJ]; exact (zj (s := s) ▸ hl)
 ·unfold ls; rw [Su]; rfl
theorem Va : SGS.length <= Pr := by decide +kernel
theorem Bf : SG0 ++ [.str PF, .str PF] = yu.map .str := by kernel_rfl
theorem Wd {b : Nat} (h : (l.all fun y => decide (y.length <= b)) = true) (hi : i < l.length) : (l.getD i PF).length <= b := by
 rw [S7, PY hi]
 exact of_decide_eq_true (PT.mp h _ (Rx hi))
noncomputable abbrev Mf (x : Nat) (μ : q4) : Prop := ∃ J, (evN ftT (n + 40)).call 196 [.int (x : Int)] [] μ = some (.ok (ye x).pv, μ ++ J)
theorem DC : Mf (n := n) x μ := by
 have hadd := wf (μ := μ ++ [.list SG0] ++ [.list [.str PF, .str PF]]) (a := μ.length) (b := (μ ++ [q8.list SG0]).length) (qc q6) q6 (by rw [Bf]; decide +kernel)
 rw [Bf] at hadd
 have b120 : x / 120 % 32 < yu.length := Ap _ (by decide)
 have bT : x / 3840 % 10 < TL.length := Ap _ (by decide)
 have bR : x / 120 % 32 % 3 < RAW.length := Ap _ (by decide)
 have bN : x / 10 % 4 < N4.length := Ap _ (by decide)
 have bK : x / 40 % 3 < K3.length := Ap _ (by decide)
 have hl : (yu.getD (x / 120 % 32) PF ++ TL.getD (x / 3840 % 10) PF).length <= Pr := fit (jQ (Wd (b := 1) (by decide +kernel) b120) (Wd (b := 1) (by decide +kernel) bT)) (by decide)
 have hm : q5 (μ ++ [.list SG0] ++ [.list [.str PF, .str PF]] ++ [.list (yu.map .str)]) (μ ++ [q8.list SG0] ++ [q8.list [.str PF, .str PF]]).length = some (yu.map .str) := q6
 have hA : ∃ A, μ ++ [.list SG0] ++ [.list [.str PF, .str PF]] ++ [.list (yu.map .str)] = μ ++ A := ⟨_, by rw [PH, PH]⟩
 generalize (μ ++ [q8.list SG0] ++ [q8.list [.str PF, .str PF]]).length = a at *
 generalize μ ++ [.list SG0] ++ [.list [.str PF, .str PF]] ++ [.list (yu.map .str)] = S at *
 obtain ⟨A, hA⟩ := hA
 have pS := vw (μ := S ++ [.list (TL.map .str)]) (qc hm) b120
 have pT := vw (μ := S ++ [.list (TL.map .str)]) (m := S.length) q6 bT
 have pN := fun ν : q4 => vw (μ := ν ++ [.list (N4.map .str)]) (m := ν.length) q6 bN
 have pK := fun ν : q4 => vw (μ := ν ++ [.list (K3.map .str)]) (m := ν.length) q6 bK
 have pR := fun ν : q4 => vw (μ := ν ++ [.list (RAW.map .str)]) (m := ν.length) q6 bR
 unfold Mf
 by_cases hq : x / 38400 % 3 = 2
 ·have hqi : ((x / 38400 % 3 : Nat) : Int) = 2 := congrArg Int.ofNat hq
  refine ⟨A ++ [.list (TL.map .str)] ++ [.list (RAW.map .str)] ++ [.list (N4.map .str)] ++ [.list (K3.map .str)], ?_⟩
  have hst : vT x = RAW.getD (x / 120 % 32 % 3) PF := if_pos hq
  rw [<- PH, <- PH, <- PH, <- PH, <- hA]
  unfold ye
  rw [hst]
  exact jv (n := n) (k := 39) [.d, fV (jt (a := Pv " ()<>@,;:\\\"/[]?=") (b := aZ (Pv ",\\\"") 3) (μ := μ) (by decide)), fV (jt (a := Pv " ()<>@,;:\\\"/[]?=" ++ aZ (Pv ",\\\"") 3) (b := Pv "x'!{-") (μ := μ) (by decide)), fV ((fun n => WM (n := n) (v := .int (x : Int)) (μ := μ) Va) (n + 30)), .d, fV (hadd), .d, .d, .d, .d, .d, .d, fV (fdN (m := x) (j := 120) (μ := S ++ [q8.list [PV.str (Pv ""), PV.str (Pv "\t"), PV.str (Pv "\""), PV.str (Pv "\\"), PV.str (Pv "y"), PV.str (T7 #[RA 31]), PV.str (T7 #[RA 127]), PV.str (T7 #[RA 128]), PV.str (T7 #[RA 10]), PV.str (T7 #[RA 13])]]) rfl), fV (fmN (m := x / RA 120) (j := 32) (μ := S ++ [q8.list [PV.str (Pv ""), PV.str (Pv "\t"), PV.str (Pv "\""), PV.str (Pv "\\"), PV.str (Pv "y"), PV.str (T7 #[RA 31]), PV.str (T7 #[RA 127]), PV.str (T7 #[RA 128]), PV.str (T7 #[RA 10]), PV.str (T7 #[RA 13])]]) rfl), fV (pS), fV (fdN (m := x) (j := 3840) (μ := S ++ [q8.list (Rm PV.str TL)]) rfl), fV (fmN (m := x / RA 3840) (j := 10) (μ := S ++ [q8.list (Rm PV.str TL)]) rfl), fV (pT), fV (jt (μ := S ++ [q8.list (Rm PV.str TL)]) hl), fV (fdN (m := x) (j := 38400) (μ := S ++ [q8.list (Rm PV.str TL)]) rfl), fV (fmN (m := x / RA 38400) (j := 3) (μ := S ++ [q8.list (Rm PV.str TL)]) rfl), fV ((jz hqi : qY Uv.Eq (PV.int ↑(x / 38400 % 3)) (PV.int 2) (S ++ [q8.list (Rm PV.str TL)]) = some (Rs (PV.bool true), S ++ [q8.list (Rm PV.str TL)]))), .d, .d, fV (fdN (m := x) (j := 120) (μ := S ++ [q8.list (Rm PV.str TL)] ++ [q8.list [PV.str (Pv "\"\"y"), PV.str (Pv "y\",\""), PV.str (Pv "")]]) rfl), fV (fmN (m := x / RA 120) (j := 32) (μ := S ++ [q8.list (Rm PV.str TL)] ++ [q8.list [PV.str (Pv "\"\"y"), PV.str (Pv "y\",\""), PV.str (Pv "")]]) rfl), fV (fmN (m := x / RA 120 % RA 32) (j := 3) (μ := S ++ [q8.list (Rm PV.str TL)] ++ [q8.list [PV.str (Pv "\"\"y"), PV.str (Pv "y\",\""), PV.str (Pv "")]]) rfl), fV (pR (S ++ [.list (TL.map .str)])), fV (fmN (m := x) (j := 10) (μ := S ++ [q8.list (Rm PV.str TL)] ++ [q8.list (Rm PV.str RAW)]) rfl), .d, fV (fdN (m := x) (j := 10) (μ := S ++ [q8.list (Rm PV.str TL)] ++ [q8.list (Rm PV.str RAW)] ++ [q8.list [PV.str (Pv "ab"), PV.str (Pv "x-"), PV.str (Pv "AB"), PV.str (Pv "X-")]]) rfl), fV (fmN (m := x / RA 10) (j := 4) (μ := S ++ [q8.list (Rm PV.str TL)] ++ [q8.list (Rm PV.str RAW)] ++ [q8.list [PV.str (Pv "ab"), PV.str (Pv "x-"), PV.str (Pv "AB"), PV.str (Pv "X-")]]) rfl), fV (pN (S ++ [.list (TL.map .str)] ++ [.list (RAW.map .str)])), .d, fV (fdN (m := x) (j := 40) (μ := S ++ [q8.list (Rm PV.str TL)] ++ [q8.list (Rm PV.str RAW)] ++ [q8.list (Rm PV.str N4)] ++ [q8.list [PV.str (Pv "k"), PV.str (Pv "K"), PV.str (Pv "a-b\\")]]) rfl), fV (fmN (m := x / RA 40) (j := 3) (μ := S ++ [q8.list (Rm PV.str TL)] ++ [q8.list (Rm PV.str RAW)] ++ [q8.list (Rm PV.str N4)] ++ [q8.list [PV.str (Pv "k"), PV.str (Pv "K"), PV.str (Pv "a-b\\")]]) rfl), fV (pK (S ++ [.list (TL.map .str)] ++ [.list (RAW.map .str)] ++ [.list (N4.map .str)]))] (by kernel_rfl)
 ·have hqi : ((x / 38400 % 3 : Nat) : Int) ≠ 2 := fun e => hq (T3 e)
  refine ⟨A ++ [.list (TL.map .str)] ++ [.list (N4.map .str)] ++ [.list (K3.map .str)], ?_⟩
  have hst : vT x = yu.getD (x / 120 % 32) PF ++ TL.getD (x / 3840 % 10) PF := if_neg hq
  rw [<- PH, <- PH, <- PH, <- hA]
  unfold ye
  rw [hst]
  exact jv (n := n) (k := 39) [.d, fV (jt (a := Pv " ()<>@,;:\\\"/[]?=") (b := aZ (Pv ",\\\"") 3) (μ := μ) (by decide)), fV (jt (a := Pv " ()<>@,;:\\\"/[]?=" ++ aZ (Pv ",\\\"") 3) (b := Pv "x'!{-") (μ := μ) (by decide)), fV ((fun n => WM (n := n) (v := .int (x : Int)) (μ := μ) Va) (n + 30)), .d, fV (hadd), .d, .d, .d, .d, .d, .d, fV (fdN (m := x) (j := 120) (μ := S ++ [q8.list [PV.str (Pv ""), PV.str (Pv "\t"), PV.str (Pv "\""), PV.str (Pv "\\"), PV.str (Pv "y"), PV.str (T7 #[RA 31]), PV.str (T7 #[RA 127]), PV.str (T7 #[RA 128]), PV.str (T7 #[RA 10]), PV.str (T7 #[RA 13])]]) rfl), fV (fmN (m := x / RA 120) (j := 32) (μ := S ++ [q8.list [PV.str (Pv ""), PV.str (Pv "\t"), PV.str (Pv "\""), PV.str (Pv "\\"), PV.str (Pv "y"), PV.str (T7 #[RA 31]), PV.str (T7 #[RA 127]), PV.str (T7 #[RA 128]), PV.str (T7 #[RA 10]), PV.str (T7 #[RA 13])]]) rfl), fV (pS), fV (fdN (m := x) (j := 3840) (μ := S ++ [q8.list (Rm PV.str TL)]) rfl), fV (fmN (m := x / RA 3840) (j := 10) (μ := S ++ [q8.list (Rm PV.str TL)]) rfl), fV (pT), fV (jt (μ := S ++ [q8.list (Rm PV.str TL)]) hl), fV (fdN (m := x) (j := 38400) (μ := S ++ [q8.list (Rm PV.str TL)]) rfl), fV (fmN (m := x / RA 38400) (j := 3) (μ := S ++ [q8.list (Rm PV.str TL)]) rfl), fV ((qE hqi : qY Uv.Eq (PV.int ↑(x / 38400 % 3)) (PV.int 2) (S ++ [q8.list (Rm PV.str TL)]) = some (Rs (PV.bool false), S ++ [q8.list (Rm PV.str TL)]))), fV (fmN (m := x) (j := 10) (μ := S ++ [q8.list (Rm PV.str TL)]) rfl), .d, fV (fdN (m := x) (j := 10) (μ := S ++ [q8.list (Rm PV.str TL)] ++ [q8.list [PV.str (Pv "ab"), PV.str (Pv "x-"), PV.str (Pv "AB"), PV.str (Pv "X-")]]) rfl), fV (fmN (m := x / RA 10) (j := 4) (μ := S ++ [q8.list (Rm PV.str TL)] ++ [q8.list [PV.str (Pv "ab"), PV.str (Pv "x-"), PV.str (Pv "AB"), PV.str (Pv "X-")]]) rfl), fV (pN (S ++ [.list (TL.map .str)])), .d, fV (fdN (m := x) (j := 40) (μ := S ++ [q8.list (Rm PV.str TL)] ++ [q8.list (Rm PV.str N4)] ++ [q8.list [PV.str (Pv "k"), PV.str (Pv "K"), PV.str (Pv "a-b\\")]]) rfl), fV (fmN (m := x / RA 40) (j := 3) (μ := S ++ [q8.list (Rm PV.str TL)] ++ [q8.list (Rm PV.str N4)] ++ [q8.list [PV.str (Pv "k"), PV.str (Pv "K"), PV.str (Pv "a-b\\")]]) rfl), fV (pK (S ++ [.list (TL.map .str)] ++ [.list (N4.map .str)]))] (by kernel_rfl)
end
noncomputable def CTL : Str := "Control characters not allowed in headers"
inductive jG where
 | no | yes (b : Bool) | ctl | lst (l : List Bool)
noncomputable def jV (μ : q4) (H N : Nat) (p : PV) : jG -> Prop
 | .no => p = .none
 | .yes b => p = .bool b
 | .ctl => p = .str CTL
 | .lst l => ∃ a, p = .loc a /\ a ≠ H /\ a ≠ N /\ q5 μ a = some (l.map .bool)
def Ext (μ ν : q4) : Prop := μ.length <= ν.length /\ ∀ a, a < μ.length -> ν[a]? = μ[a]?
abbrev ZL := List (PV × jG)
theorem yZ {μ : q4} {a : Nat} {l : List PV} (h : q5 μ a = some l) : a < μ.length := (R0.mp (vY h)).1
structure xl (μ0 μ : q4) (T d H N : Nat) (rows : Ps) (zs : ZL) : Prop where
 ext : Ext μ0 μ
 tab : Tab μ T d H rows
 hH : μ0.length <= H
 hN : μ0.length <= N
 nl : q5 μ N = some (zs.map RN)
 nn : N ≠ H
 reps : ∀ z ∈ zs, jV μ H N z.1 z.2
section
variable {n : Nat} {μ0 μ ν ρ X Y J : q4} {T d H N P a T' d' H' : Nat} {rows rows' : Ps} {zs : ZL} {s : St} {v : PV} {k : Str}
theorem Ext.keep (x : Ext μ ν) (k : qi ν H ρ) (h : μ.length <= H) : Ext μ ρ := ⟨Pq x.1 k.1, fun a ha => (k.2 a (PZ ha x.1) (RQ (PZ ha h))).trans (x.2 a ha)⟩
theorem Ext.refl : Ext μ μ := ⟨PK _, fun zz zz => rfl⟩
theorem Ext.list {l : List PV} (x : Ext μ ν) (h : q5 μ a = some l) : q5 ν a = some l := (wG (x.2 a (yZ h))).trans h
theorem jV.mono {p : PV} {m : jG} (q : jV μ H N p m) (h : ∀ a l, q5 μ a = some l -> a ≠ H -> a ≠ N -> a ≠ H' /\ q5 ν a = some l) : jV ν H' N p m := by
 induction m with
 | lst l =>
   obtain ⟨x, e, q1, q2, q3⟩ := q
   exact ⟨x, e, (h x _ q3 q1 q2).1, q2, (h x _ q3 q1 q2).2⟩
 | _ => exact q
theorem xl.move (p : xl μ0 μ T d H N rows zs) (k : qi μ H ν) (t : Tab ν T' d' H' rows') (h : H' = H \/ μ.length <= H') : xl μ0 ν T' d' H' N rows' zs := by
 have ne : ∀ {a : Nat}, a < μ.length -> a ≠ H -> a ≠ H' := fun ha hn => h.elim (fun e => e ▸ hn) fun q => RQ (PZ ha q)
 exact ⟨p.ext.keep k p.hH, t, h.elim (fun e => e ▸ p.hH) fun q => Pq p.ext.1 q, p.hN, k.list p.nl p.nn, ne (yZ p.nl) p.nn, fun z hz => (p.reps z hz).mono fun a l q h1 zz => ⟨ne (yZ q) h1, k.list q h1⟩⟩
theorem qi.set0 {c : q8} : qi μ H (qj μ H c) := by
 have := qi.set (μ := μ) (H := H) (c := c) (J := [])
 rwa [PS] at this
noncomputable abbrev yw (ν : q4) (N : Nat) (zs : ZL) : q4 := qj ν N (.list (zs.map RN))
theorem xl.note {z : PV × jG} (p : xl μ0 μ T d H N rows zs) (hv : jV μ H N z.1 z.2) : xl μ0 (yw μ N (zs ++ [z])) T d H N rows (zs ++ [z]) := by
 have kN : qi μ N (yw μ N (zs ++ [z])) := qi.set0
 have hg := vY p.nl
 have hT : T ≠ N := fun e => by
  have h : (μ[T]?).bind xA = some d := p.tab.i
  rw [e, hg] at h; exact no h
 have hd : d ≠ N := fun e => by
  have h : (μ[d]?).bind wx = _ := p.tab.d
  rw [e, hg] at h; exact no h
 refine ⟨p.ext.keep kN p.hN, ⟨(congrArg (·.bind xA) (w9 hT)).trans p.tab.i, (congrArg (·.bind wx) (w9 hd)).trans p.tab.d, kN.list p.tab.h (SO p.nn)⟩, p.hH, p.hN, congrArg (·.bind kh) (vz (yZ p.nl)), p.nn, fun y hy => ?_⟩
 have hm : jV μ H N y.1 y.2 := (PU.mp hy).elim (p.reps y) fun h => by rw [Pw.mp h]; exact hv
 exact hm.mono fun a l q h1 h2 => ⟨h1, kN.list q h2⟩
noncomputable def sv : Option St -> Loc
 | none => []
 | some s => [("kind", .int s.kind), ("name", .str s.name), ("key", .str s.key), ("text", .str s.text), ("quote", .int s.quote)]
noncomputable abbrev ve (P T N : Nat) (o : Option St) : LE := ⟨qm 230, ("steps", .loc P) :: ("notes", .loc N) :: ("table", .loc T) :: sv o⟩
noncomputable abbrev Co : List Sf := qV (qo 230).body
structure OO (n P : Nat) (μ0 μ : q4) (T N : Nat) (s : St) (rows' : Ps) (ns' : List jG) (ν : q4) (T' d' H' : Nat) (zs' : ZL) : Prop where
 e : (evN ftT (n + 100)).ex (ve P T N (some s)) Co μ = some (.ok .next, ve P T' N (some s), ν)
 p : xl μ0 ν T' d' H' N rows' zs'
 z : zs'.map Rh = ns'
def wt (n P : Nat) (μ0 μ : q4) (T N : Nat) (s : St) (rows' : Ps) (ns' : List jG) : Prop := ∃ ν T' d' H' zs', OO n P μ0 μ T N s rows' ns' ν T' d' H' zs'
theorem zG {z : PV × jG} : (zs ++ [z]).map Rh = zs.map Rh ++ [z.2] := Rt
theorem y2 (h : q5 μ N = some (zs.map RN)) (hl : zs.length <= 1000) (m : jG) : j0 (.loc N) "append" [v] μ = some (.ok .none, yw μ N (zs ++ [(v, m)])) := by
 rw [Yk h (by rw [PJ]; exact Pq (Rb hl) (by decide)), yw, Rt]; rfl
noncomputable abbrev Pf : List Tn := match Co with
 | [.Try _ h _ _ _] => h
 | _ => []
theorem f9 (h : q5 μ N = some (zs.map RN)) (hl : zs.length <= 1000) : yT (ve P T N (some s)) fu Pf μ = some (.ok .next, ve P T N (some s), yw μ N (zs ++ [(.str CTL, .ctl)])) := by
 show ((q5 μ N).bind fun l => if l.length + 1 <= Pr /\ CTL.length <= Pr then some (Rs j6.next, ve P T N (some s), qj μ N (.list (l ++ [.str CTL]))) else none) = _
 rw [h, PL, if_pos ⟨by rw [PJ]; exact Pq (Rb hl) (by decide), by decide +kernel⟩, yw, Rt]; rfl
end
noncomputable def dsh (k : Str) : Str := SA k "-" "_"
structure StF (s : St) : Prop where
 bn : bad true s.name = false
 kw : Xz (dsh s.key)
 kl : s.key.length <= 100
 us : usc (dsh s.key) = s.key
 tl : s.text.length <= 100
 w : WS' s.text
noncomputable def emS : Str := ""
noncomputable def ze (z : Bool) : PV := if z = true then .str emS else .none
noncomputable def zk (z : Bool) : Nat := if z = true then 1 else 0
noncomputable abbrev LZ : q8 := .list [.none, .str zS]
noncomputable abbrev LE0 : q8 := .list [.none, .str emS]
section
variable {n : Nat} {μ0 μ ν X Y J : q4} {T d H N P : Nat} {rows rows' : Ps} {zs : ZL} {s : St} {v : PV} {k : Str} {z : Bool} {kv : Str × PV} {i j : Int}
theorem YQ (hx : k.length <= 100) : jW k "replace" [.str "-", .str "_"] μ = some (.ok (.str (dsh k)), μ) := by
 show (if decide (16000000 < k.length) = true then none else if (decide (k.length <= 1048576)) = true then _ else _) = _
 rw [if_neg (by rw [decide_eq_true_iff]; lia), if_pos (decide_eq_true (by lia))]; rfl
theorem yo (h : i < j) : qY .Lt (.int i) (.int j) μ = some (.ok (.bool true), μ) := by
 show some (Rs (PV.bool (decide (i < j))), μ) = _
 rw [decide_eq_true h]
theorem xE (h : ¬ i < j) : qY .Lt (.int i) (.int j) μ = some (.ok (.bool false), μ) := by
 show some (Rs (PV.bool (decide (i < j))), μ) = _
 rw [decide_eq_false h]
theorem EL (h : s.kind = zk z) : (s.kind : Int) < 2 := by rw [h]; induction z <;> decide
theorem pz (h : s.kind = zk z) : za (.loc μ.length) (.int s.kind) (μ ++ [LZ]) = some (.ok (zv z), μ ++ [LZ]) := by
 show (q5 (μ ++ [LZ]) μ.length).bind _ = _
 rw [q6, h]; induction z <;> rfl
theorem pe (h : s.kind = zk z) : za (.loc (Y ++ q8.dict [] :: []).length) (.int s.kind) (Y ++ .dict [] :: ([] ++ [LE0])) = some (.ok (ze z), Y ++ .dict [] :: ([] ++ [LE0])) := by
 show (q5 (Y ++ q8.dict [] :: ([] ++ [LE0])) (Y ++ q8.dict [] :: []).length).bind _ = _
 rw [gT, h]; induction z <;> rfl
theorem Gx : (if (([(k, v)] : Loc).map (·.1)).Nodup /\ (qe (Y ++ .dict [] :: J) Y.length).any (·.isEmpty) = true then some (.ok (.loc Y.length), qj (Y ++ .dict [] :: J) Y.length (.dict [(k, v)])) else none : PR PV) = some (.ok (.loc Y.length), Y ++ .dict [(k, v)] :: J) := by
 have e : qe (Y ++ .dict [] :: J) Y.length = some [] := by unfold qe; rw [y7]; rfl
 rw [if_pos ⟨Us.mpr ⟨(nofun), UL⟩, by rw [e]; rfl⟩]
 unfold qj; rw [SQ _ _ (PK _), Ss]; rfl
noncomputable abbrev Y0 (X : q4) : q4 := X ++ [.dict []]
noncomputable abbrev Zs (X : q4) (kv : Str × PV) (J : q4) : q4 := X ++ .dict [kv] :: .dict [kv] :: J
theorem vS {r : Ev} {f : PE} {vs : List PV} : gu r f vs X.length (.loc (Y0 X).length) (Y0 X ++ .dict [kv] :: J) = r.call f vs [kv] (Zs X kv J) := by
 have e1 : qe (Y0 X ++ .dict [kv] :: J) X.length = some [] := by
  unfold qe; rw [PH, Tq, y7]; rfl
 have e2 : qe (Y0 X ++ .dict [kv] :: J) (Y0 X).length = some [kv] := by unfold qe; rw [y7]; rfl
 show (if (Y0 X).length = X.length then none else _) = _
 rw [if_neg (fun h => Gh (c := .dict []) (J := []) h.symm), e1, PL, e2]
 show r.call f vs [kv] (qj (Y0 X ++ .dict [kv] :: J) X.length (.dict [kv])) = _
 unfold qj; rw [PH, Tq, SQ _ _ (PK _), Ss]; rfl
theorem yS (p : xl μ0 μ T d H N rows zs) : qw μ (.loc N) = none := jg p.nl
theorem OJ (p : xl μ0 μ T d H N rows zs) (f : StF s) (hk : s.kind = zk z) (hr : rows.length <= 1000) (hL : zs.length <= 1000) (h0 : s.text.length ≠ 0) :
 wt n P μ0 μ T N s (if bad false s.text = true then rows else rows ++ [(s.name, zp z ++ fmt s.key s.text 1)]) (zs.map Rh ++ [if bad false s.text = true then .ctl else .no]) := by
 have tX : Tab (Zs (μ ++ [LZ]) (dsh s.key, .str s.text) []) T d H rows := p.tab.app.app
 have kX : qi μ H (Zs (μ ++ [LZ]) (dsh s.key, .str s.text) []) := qi.trans qi.app qi.app (.inl rfl)
 have hl : (fmt (usc (dsh s.key)) s.text 1).length <= 10000 := by
  rw [f.us]
  have h1 := f.kl
  have h2 := f.tl
  have h3 := f.w.e
  unfold fmt ZQ
  split
  ·lia
  ·rw [if_pos (.inl (by decide))]
   rw [PN, PN, PN, PN]
   show 0 + _ + 2 + _ + 1 <= _
   lia
 obtain ⟨J, h184⟩ := Xf (n := n + 55) (z := z) tX f.bn f.kw (f.w.fmt f.kw.u) hl (Pq (Rb hr) (by decide))
 rw [f.us] at h184
 have hkl := f.kl
 have hlt := EL hk
 induction hb : bad false s.text with
 | true =>
   rw [hb, if_pos rfl] at h184
   have hq := vS.trans h184
   have p2 := p.move (kX.trans (qi.app (J := J)) (.inl rfl)) tX.app (.inl rfl)
   refine ⟨yw (Zs (μ ++ [LZ]) (dsh s.key, .str s.text) [] ++ J) N (zs ++ [(.str CTL, .ctl)]), T, d, H, zs ++ [(.str CTL, .ctl)], ?_, p2.note (z := (.str CTL, .ctl)) rfl, zG⟩
   exact ql [fV (yo (μ := μ) hlt), fI (yS p), fL (je p.nl), fI (p.tab.i), .c (p.tab.ok (x := Pv "add_header") rfl : qn μ d (Pv "add_header") = true), .d, .d, fV (pz (μ := μ) hk), fV (YQ (μ := μ ++ [LZ] ++ [q8.dict []] ++ [q8.dict []]) hkl), fT (vi (μ := μ ++ [LZ] ++ [q8.dict []] ++ [q8.dict []]) h0), fV (Gx (Y := Y0 (μ ++ [LZ])) (J := []) (k := dsh s.key) (v := .str s.text)), fV (hq), fS (f9 (T := T) (P := P) (s := s) p2.nl hL)] (by kernel_rfl)
 | false =>
   rw [hb, if_neg (by decide)] at h184
   have hq := vS.trans h184
   have p2 := p.move (rows' := rows ++ [(s.name, zp z ++ fmt s.key s.text 1)]) (kX.trans (qi.set (J := J)) (.inl rfl)) tX.set.app (.inl rfl)
   refine ⟨yw (qj (Zs (μ ++ [LZ]) (dsh s.key, .str s.text) []) H (rw' (rows ++ [(s.name, zp z ++ fmt s.key s.text 1)])) ++ J) N (zs ++ [(.none, .no)]), T, d, H, zs ++ [(.none, .no)], ?_, p2.note (z := (.none, .no)) rfl, zG⟩
   exact ql [fV (yo (μ := μ) hlt), fI (yS p), fL (je p.nl), fI (p.tab.i), .c (p.tab.ok (x := Pv "add_header") rfl : qn μ d (Pv "add_header") = true), .d, .d, fV (pz (μ := μ) hk), fV (YQ (μ := μ ++ [LZ] ++ [q8.dict []] ++ [q8.dict []]) hkl), fT (vi (μ := μ ++ [LZ] ++ [q8.dict []] ++ [q8.dict []]) h0), fV (Gx (Y := Y0 (μ ++ [LZ])) (J := []) (k := dsh s.key) (v := .str s.text)), fV (hq), fV (y2 (v := .none) p2.nl hL .no)] (by kernel_rfl)
theorem O5 {M : q4} (t : Tab M T d H rows) (f : StF s) (hr : rows.length <= 1000) : ∃ J, (evN ftT (n + 40)).call 184 [.loc T, .str s.name, zv z] [(dsh s.key, ze z)] M = some (.ok .none, qj M H (rw' (rows ++ [(s.name, zp z ++ s.key)])) ++ J) := by
 have hr : rows.length + 1 <= Pr := Pq (Rb hr) (by decide)
 have hu := f.kw.u
 induction z with
 | true =>
   obtain ⟨J, h⟩ := Xf (n := n) (z := true) (s := emS) t f.bn f.kw ⟨Pq hu (by decide), by decide +kernel, by decide +kernel, by decide +kernel⟩ (by show (usc (dsh s.key)).length <= _; exact Pq hu (by decide)) hr
   rw [show bad false emS = false by decide +kernel, if_neg (by decide), show fmt (usc (dsh s.key)) emS 1 = usc (dsh s.key) from if_pos rfl, f.us] at h
   exact ⟨J, h⟩
 | false =>
   obtain ⟨J, h⟩ := Be (n := n) t f.bn f.kw hr
   rw [f.us] at h
   rw [show zp false ++ s.key = s.key from jP _]
   exact ⟨J, h⟩
theorem OM (p : xl μ0 μ T d H N rows zs) (f : StF s) (hk : s.kind = zk z) (hr : rows.length <= 1000) (hL : zs.length <= 1000) (h0 : s.text.length = 0) :
 wt n P μ0 μ T N s (rows ++ [(s.name, zp z ++ s.key)]) (zs.map Rh ++ [.no]) := by
 have tX : Tab (Zs (μ ++ [LZ]) (dsh s.key, ze z) ([] ++ [LE0])) T d H rows := p.tab.app.app
 have kX : qi μ H (Zs (μ ++ [LZ]) (dsh s.key, ze z) ([] ++ [LE0])) := qi.trans qi.app qi.app (.inl rfl)
 obtain ⟨J, h184⟩ := O5 (n := n + 55) (z := z) tX f hr
 have hq := vS.trans h184
 have hkl := f.kl
 have hlt := EL hk
 have p2 := p.move (rows' := rows ++ [(s.name, zp z ++ s.key)]) (kX.trans (qi.set (J := J)) (.inl rfl)) tX.set.app (.inl rfl)
 refine ⟨yw (qj (Zs (μ ++ [LZ]) (dsh s.key, ze z) ([] ++ [LE0])) H (rw' (rows ++ [(s.name, zp z ++ s.key)])) ++ J) N (zs ++ [(.none, .no)]), T, d, H, zs ++ [(.none, .no)], ?_, p2.note (z := (.none, .no)) rfl, zG⟩
 exact ql [fV (yo (μ := μ) hlt), fI (yS p), fL (je p.nl), fI (p.tab.i), .c (p.tab.ok (x := Pv "add_header") rfl : qn μ d (Pv "add_header") = true), .d, .d, fV (pz (μ := μ) hk), fV (YQ (μ := μ ++ [LZ] ++ [q8.dict []] ++ [q8.dict []]) hkl), fT (ZP (μ := μ ++ [LZ] ++ [q8.dict []] ++ [q8.dict []]) h0), fV (v6 (μ := Y0 (μ ++ [LZ])) (c := .dict []) (J := []) (l := [.none, .str emS]) Bq), fV (pe (Y := Y0 (μ ++ [LZ])) hk), fV (Gx (Y := Y0 (μ ++ [LZ])) (J := [] ++ [LE0]) (k := dsh s.key) (v := ze z)), fV (hq), fV (y2 (v := .none) p2.nl hL .no)] (by kernel_rfl)
noncomputable def St.w (s : St) : Str := wr s.key (.str s.text) s.quote
theorem Ga (f : StF s) : (evN ftT (n + 30)).call 220 [.str s.key, .str s.text, .int s.quote] [] μ = some (.ok (.str s.w), μ ++ wrJ (.str s.text) s.quote) := WP (Pq f.kl (by decide)) (.inr (.inr ⟨_, rfl, f.w⟩)) (.inr ⟨_, rfl⟩)
theorem t2 (p : xl μ0 μ T d H N rows zs) (f : StF s) (h : TN rows s.name) (hk : s.kind = 2) (hL : zs.length <= 1000) :
 wt n P μ0 μ T N s (if bad false s.w = true then qd rows (Pt s.name) else put rows s.name s.w) (zs.map Rh ++ if bad false s.w = true then [.ctl] else []) := by
 have k1 : ¬ (s.kind : Int) < 2 := by rw [hk]; decide
 have k2 : (s.kind : Int) = 2 := by rw [hk]; rfl
 have tX := p.tab.app (J := wrJ (.str s.text) s.quote)
 have kX : qi μ H (μ ++ wrJ (.str s.text) s.quote) := qi.app
 have h102 := fun n => Zx (n := n) (v := s.w) tX h.n h.b h.three h.k
 induction hb : bad false s.w with
 | true =>
   rw [hb] at h102
   have p2 := p.move (rows' := qd rows (Pt s.name)) (kX.trans (qi.set (J := [rw' (qd rows (Pt s.name))])) (.inl rfl)) tX.set.app (.inl rfl)
   refine ⟨yw (qj (μ ++ wrJ (.str s.text) s.quote) H (rw' (qd rows (Pt s.name))) ++ [rw' (qd rows (Pt s.name))]) N (zs ++ [(.str CTL, .ctl)]), T, d, H, zs ++ [(.str CTL, .ctl)], ?_, p2.note (z := (.str CTL, .ctl)) rfl, zG⟩
   exact ql [fV (xE (μ := μ) k1), fV (jz (μ := μ) k2), fV ((fun n => Ga (n := n) (μ := μ) f) (n + 65)), fI (tX.i), fV (h102 (n + 66)), fS (f9 (T := T) (P := P) (s := s) p2.nl hL)] (by kernel_rfl)
 | false =>
   rw [hb] at h102
   have p2 := p.move (rows' := put rows s.name s.w) (kX.trans (qi.set (J := [rw' (qd rows (Pt s.name))])) (.inl rfl)) tX.set.app (.inl rfl)
   refine ⟨qj (μ ++ wrJ (.str s.text) s.quote) H (rw' (put rows s.name s.w)) ++ [rw' (qd rows (Pt s.name))], T, d, H, zs, ?_, p2, (PS _).symm⟩
   exact ql [fV (xE (μ := μ) k1), fV (jz (μ := μ) k2), fV ((fun n => Ga (n := n) (μ := μ) f) (n + 65)), fI (tX.i), fV (h102 (n + 66))] (by kernel_rfl)
theorem t4 (p : xl μ0 μ T d H N rows zs) (h : TN rows s.name) (hk : s.kind = 4) :
 wt n P μ0 μ T N s (qd rows (Pt s.name)) (zs.map Rh) := by
 have k1 : ¬ (s.kind : Int) < 2 := by rw [hk]; decide
 have k2 : (s.kind : Int) ≠ 2 := by rw [hk]; decide
 have k3 : (s.kind : Int) ≠ 3 := by rw [hk]; decide
 have k4 : (s.kind : Int) = 4 := by rw [hk]; rfl
 have h107 := fun n => Jw (n := n) p.tab h.n h.two h.k
 have p2 := p.move (rows' := qd rows (Pt s.name)) (qi.set (J := [rw' (qd rows (Pt s.name))])) p.tab.set.app (.inl rfl)
 refine ⟨qj μ H (rw' (qd rows (Pt s.name))) ++ [rw' (qd rows (Pt s.name))], T, d, H, zs, ?_, p2, rfl⟩
 exact ql [fV (xE (μ := μ) k1), fV (qE (μ := μ) k2), fV (qE (μ := μ) k3), fV (jz (μ := μ) k4), fI (p.tab.i), fV (h107 (n + 74))] (by kernel_rfl)
end
theorem yg (rows : Ps) (nm : Str) : first rows nm = (q7 rows nm).head? := by
 unfold first q7
 rw [<- List.head?_filter, List.head?_map]
structure SwF (s : St) : Prop where
 lo : Pt (Sk s.name) = Pt s.name
 sl : (Sk s.name).length <= 1000
noncomputable def isE (s : Str) : Bool := s == Pv ""
section
variable {n : Nat} {μ0 μ ν X Y J : q4} {T d H N P m : Nat} {rows rows' : Ps} {zs : ZL} {s : St} {v : PV} {k x : Str} {z : Bool} {kv : Str × PV} {i j : Int} {l : List Str}
theorem ZB {nm w : Str} : q7 (rows ++ [(nm, w)]) (Pt nm) = q7 rows (Pt nm) ++ [w] := by
 unfold q7
 rw [SM, Rt, filter_cons, if_pos (beq_self_eq_true _)]; rfl
theorem Wi {a : Str} (h : Pz a = true) : qY .Eq (.str a) (.str a) μ = some (.ok (.bool true), μ) := w6 h h (beq_self_eq_true a)
theorem Hc (t : Tab μ T d H rows) (h : TN rows s.name) (sw : SwF s) {r : Str} {tl : List Str} (hr : q7 rows (Pt s.name) = r :: tl) :
 (evN ftT (n + 20)).call 126 [.loc T, .str (Sk s.name)] [] μ = some (.ok (.loc μ.length), μ ++ [ls (r :: tl)]) := by
 have q := gb (n := n) (nm := Sk s.name) t ⟨⟨sw.lo ▸ h.n.l, sw.lo ▸ h.n.o⟩, sw.lo ▸ h.n.b⟩ h.one h.k
 rw [sw.lo] at q
 rw [<- hr]; exact q
theorem t3s {r : Str} {tl : List Str} (p : xl μ0 μ T d H N rows zs) (f : StF s) (h : TN rows s.name) (sw : SwF s) (hk : s.kind = 3) (hL : zs.length <= 1000) (hr : q7 rows (Pt s.name) = r :: tl) (ho : Pz r = true) :
 wt n P μ0 μ T N s rows (zs.map Rh ++ [.yes true]) := by
 have k1 : ¬ (s.kind : Int) < 2 := by rw [hk]; decide
 have k2 : (s.kind : Int) ≠ 2 := by rw [hk]; decide
 have k3 : (s.kind : Int) = 3 := by rw [hk]; rfl
 have tX := p.tab.app (J := wrJ (.str s.text) s.quote)
 have h177 := fun n => Wf (n := n) (v := s.w) tX h.n h.b (Pq (Rb h.r) (by decide)) h.k
 rw [yg, hr] at h177
 have h126 := fun n => Hc (n := n) tX h sw hr
 have p2 := p.move (rows' := rows) (qi.trans (qi.app (J := wrJ (.str s.text) s.quote)) (qi.app (J := [ls (r :: tl)])) (.inl rfl)) tX.app (.inl rfl)
 have h1 := Jy (μ := μ ++ wrJ (.str s.text) s.quote) sw.sl
 refine ⟨yw (μ ++ wrJ (.str s.text) s.quote ++ [ls (r :: tl)]) N (zs ++ [(.bool true, .yes true)]), T, d, H, zs ++ [(.bool true, .yes true)], ?_, p2.note (z := (.bool true, .yes true)) rfl, zG⟩
 exact ql [fV (xE (μ := μ) k1), fV (qE (μ := μ) k2), fV (jz (μ := μ) k3), fI (yS p), fL (je p.nl), fI (p.tab.i), .c (p.tab.ok (x := Pv "setdefault") rfl : qn μ d (Pv "setdefault") = true), fV ((fun n => Ga (n := n) (μ := μ) f) (n + 61)), fV (h177 (n + 62)), fI (tX.i), .c (tX.ok (x := Pv "get_all") rfl : qn (μ ++ wrJ (PV.str (St.text s)) ↑(St.quote s)) d (Pv "get_all") = true), fV (h1), fV (h126 (n + 71)), fV (v9 (μ := μ ++ wrJ (.str s.text) s.quote ++ [ls (r :: tl)]) (m := (μ ++ wrJ (.str s.text) s.quote).length) (v := .str r) (l := tl.map .str) q6), fV (Wi (μ := μ ++ wrJ (PV.str (St.text s)) ↑(St.quote s) ++ [ls (r :: tl)]) ho), fV (y2 (v := .bool true) p2.nl hL (.yes true))] (by kernel_rfl)
theorem t3n (p : xl μ0 μ T d H N rows zs) (f : StF s) (h : TN rows s.name) (h' : TN (rows ++ [(s.name, s.w)]) s.name) (sw : SwF s) (hk : s.kind = 3) (hL : zs.length <= 1000) (hr : q7 rows (Pt s.name) = []) (ho : Pz s.w = true) :
 wt n P μ0 μ T N s (if bad false s.w = true then rows else rows ++ [(s.name, s.w)]) (zs.map Rh ++ [if bad false s.w = true then .ctl else .yes true]) := by
 have k1 : ¬ (s.kind : Int) < 2 := by rw [hk]; decide
 have k2 : (s.kind : Int) ≠ 2 := by rw [hk]; decide
 have k3 : (s.kind : Int) = 3 := by rw [hk]; rfl
 have tX := p.tab.app (J := wrJ (.str s.text) s.quote)
 have kX : qi μ H (μ ++ wrJ (.str s.text) s.quote) := qi.app
 have h177 := fun n => Wf (n := n) (v := s.w) tX h.n h.b (Pq (Rb h.r) (by decide)) h.k
 rw [yg, hr] at h177
 cases hb : bad false s.w with
 | true =>
   rw [hb] at h177
   have p2 := p.move (rows' := rows) kX tX (.inl rfl)
   refine ⟨yw (μ ++ wrJ (.str s.text) s.quote) N (zs ++ [(.str CTL, .ctl)]), T, d, H, zs ++ [(.str CTL, .ctl)], ?_, p2.note (z := (.str CTL, .ctl)) rfl, zG⟩
   exact ql [fV (xE (μ := μ) k1), fV (qE (μ := μ) k2), fV (jz (μ := μ) k3), fI (yS p), fL (je p.nl), fI (p.tab.i), .c (p.tab.ok (x := Pv "setdefault") rfl : qn μ d (Pv "setdefault") = true), fV ((fun n => Ga (n := n) (μ := μ) f) (n + 61)), fV (h177 (n + 62)), fS (f9 (T := T) (P := P) (s := s) p2.nl hL)] (by kernel_rfl)
 | false =>
   rw [hb] at h177
   have tY := tX.set (rows' := rows ++ [(s.name, s.w)])
   have hr' : q7 (rows ++ [(s.name, s.w)]) (Pt s.name) = [s.w] := by rw [ZB, hr]; rfl
   have h126 := fun n => Hc (n := n) tY h' sw hr'
   have p2 := p.move (rows' := rows ++ [(s.name, s.w)]) (kX.trans (qi.set (J := [ls [s.w]])) (.inl rfl)) tY.app (.inl rfl)
   have h1 := Jy (μ := qj (μ ++ wrJ (.str s.text) s.quote) H (rw' (rows ++ [(s.name, s.w)]))) sw.sl
   refine ⟨yw (qj (μ ++ wrJ (.str s.text) s.quote) H (rw' (rows ++ [(s.name, s.w)])) ++ [ls [s.w]]) N (zs ++ [(.bool true, .yes true)]), T, d, H, zs ++ [(.bool true, .yes true)], ?_, p2.note (z := (.bool true, .yes true)) rfl, zG⟩
   exact ql [fV (xE (μ := μ) k1), fV (qE (μ := μ) k2), fV (jz (μ := μ) k3), fI (yS p), fL (je p.nl), fI (p.tab.i), .c (p.tab.ok (x := Pv "setdefault") rfl : qn μ d (Pv "setdefault") = true), fV ((fun n => Ga (n := n) (μ := μ) f) (n + 61)), fV (h177 (n + 62)), fI (tY.i), .c (tY.ok (x := Pv "get_all") rfl : qn (qj (μ ++ wrJ (PV.str (St.text s)) ↑(St.quote s)) H (rw' (rows ++ [(St.name s, St.w s)]))) d (Pv "get_all") = true), fV (h1), fV (h126 (n + 71)), fV (v9 (μ := qj (μ ++ wrJ (.str s.text) s.quote) H (rw' (rows ++ [(s.name, s.w)])) ++ [ls [s.w]]) (m := (qj (μ ++ wrJ (.str s.text) s.quote) H (rw' (rows ++ [(s.name, s.w)]))).length) (v := .str s.w) (l := []) q6), fV (Wi (μ := qj (μ ++ wrJ (PV.str (St.text s)) ↑(St.quote s)) H (rw' (rows ++ [(St.name s, St.w s)])) ++ [ls [St.w s]]) ho), fV (y2 (v := .bool true) p2.nl hL (.yes true))] (by kernel_rfl)
structure Px (n : Nat) (μ : q4) (T H : Nat) (s : St) (rows' : Ps) (ν : q4) (T' d' H' : Nat) : Prop where
 e : (evN ftT (n + 93)).call 225 [.loc T, .int s.kind, .str s.name] [] μ = some (.ok (.loc T'), ν)
 k : qi μ H ν
 t : Tab ν T' d' H' rows'
 h : H' = H \/ μ.length <= H'
structure KP (s : St) : Prop where
 k1 : ¬ (s.kind : Int) < 2
 k2 : (s.kind : Int) ≠ 2
 k3 : (s.kind : Int) ≠ 3
 k4 : (s.kind : Int) ≠ 4
theorem tP {T' d' H' : Nat} (p : xl μ0 μ T d H N rows zs) (hk : KP s) (k8 : (s.kind : Int) ≠ 8) (hL : zs.length <= 1000) (hp : Px n μ T H s rows' ν T' d' H') :
 wt n P μ0 μ T N s rows' (zs.map Rh ++ [.no]) := by
 obtain ⟨k1, k2, k3, k4⟩ := hk
 have p2 := p.move hp.k hp.t hp.h
 refine ⟨yw ν N (zs ++ [(.none, .no)]), T', d', H', zs ++ [(.none, .no)], ?_, p2.note (z := (.none, .no)) rfl, zG⟩
 exact ql [fV (xE (μ := μ) k1), fV (qE (μ := μ) k2), fV (qE (μ := μ) k3), fV (qE (μ := μ) k4), fV (hp.e), fI (yS p2), fL (je p2.nl), fV (qE (μ := ν) k8), fV (y2 (v := .none) p2.nl hL .no)] (by kernel_rfl)
end
section
variable {n : Nat} {μ0 μ ν X Y J : q4} {T d H N P m T' d' H' : Nat} {rows rows' : Ps} {zs : ZL} {s : St} {v : PV} {k x : Str} {z : Bool} {kv : Str × PV} {i j : Int} {l : List Str}
noncomputable abbrev Ow : List Sf := sB (sB (sB (sB (sB Co 0 0) 0 1) 0 1) 0 1) 0 1
noncomputable abbrev Q5 : Expr := sE Ow 1 0 [1, 1]
noncomputable abbrev Dz (o : Option PV) : LE := ⟨(LE.comp (ve 0 0 0 none) (lcN Q5)).sc, Qw "item" o⟩
theorem DA {o : Option PV} {v : PV} : qu (Dz o) (qt Q5) v = some (Dz (some v)) := by induction o <;> kernel_rfl
theorem LO (h : Pz x = true) : (evN ftT (n + 6)).ev (Dz (some (.str x))) (lcE Q5) μ = some (.ok (.bool (isE x)), μ) := by
 have h1 := w6 (μ := μ) h Ct rfl
 exact xO [fV (h1)] (by kernel_rfl)
theorem Ce (hm : q5 μ m = some (l.map .str)) (hr : l.length <= Pr) (ho : ∀ y ∈ l, Pz y = true) :
 qF (evN ftT (n + 6)) (LE.comp (ve P T N (some s)) (lcN Q5)) (lcE Q5) (qt Q5) (qD Q5) (.list m, (l.map PV.str).length + 1) μ = some (.ok (.loc μ.length), μ ++ [.list ((l.map isE).map .bool)]) := by
 have q := qU (r := evN ftT (n + 6)) (target := qt Q5) (elt := lcE Q5) (ifs := qD Q5) (μ := μ) (f := fun y => .bool (isE y)) (g := fun zz => true) (Inv := fun σ => ∃ o, σ = Dz o) PV.str (qG hm)
  (fun σ y ⟨o, e⟩ hk => ⟨_, e ▸ DA, ⟨_, rfl⟩, by kernel_rfl, fun zz => LO (ho y hk)⟩) (l.length + 1) 0 (LE.comp (ve P T N (some s)) (lcN Q5)) ⟨none, by kernel_rfl⟩ rfl (Rj _)
 rw [zy] at q
 rw [PJ]
 refine (qA q (by rw [PJ]; exact hr)).trans ?_
 rw [Su]; rfl
structure R8 (x : Str) : Prop where
 c : ∀ c ∈ x.cps.toList, c < 0x110000
 l : x.length <= 100000
 h : (qH x).length <= 100000
 o : ∀ y ∈ qH x, Pz y = true
theorem t8 (p : xl μ0 μ T d H N rows zs) (hk : KP s) (k8 : (s.kind : Int) = 8) (hL : zs.length <= 1000) (hp : Px n μ T H s rows' ν T' d' H') (h : TN rows' s.name) (hx : x = (first rows' (Pt s.name)).getD emS) (r : R8 x) :
 wt n P μ0 μ T N s rows' (zs.map Rh ++ [.lst ((qH x).map isE)]) := by
 obtain ⟨k1, k2, k3, k4⟩ := hk
 have p1 := p.move hp.k hp.t hp.h
 have h134 := fun n => FZ (n := n) (dv := .str emS) hp.t h.n h.k
 have e : (first rows' (Pt s.name)).elim (PV.str emS) PV.str = .str x := by rw [hx]; cases first rows' (Pt s.name) <;> rfl
 rw [e] at h134
 obtain ⟨L, h43⟩ := Bx (n := n + 78) (μ := ν) r.c (Pq (Rb r.l) (by decide))
 have hpl : q5 (ν ++ [.list L] ++ [ls (qH x)]) (ν.length + 1) = some ((qH x).map .str) := by
  have q := q6 (μ := ν ++ [.list L]) (l := (qH x).map .str)
  rwa [PB] at q
 have hc := fun n => Ce (n := n) (P := P) (T := T') (N := N) (s := s) hpl (Pq r.h (by decide)) r.o
 have kX : qi ν H' (ν ++ [.list L] ++ [ls (qH x)] ++ [.list (((qH x).map isE).map .bool)]) := qi.trans qi.app (qi.trans qi.app qi.app (.inl rfl)) (.inl rfl)
 have p2 := p1.move (rows' := rows') kX hp.t.app.app.app (.inl rfl)
 have hne : ∀ {a : Nat}, a < ν.length -> (ν ++ [q8.list L] ++ [ls (qH x)]).length ≠ a := fun ha => by
  rw [PB, PB]; exact RZ (PZ ha (Pq (Rd ..) (Rd ..)))
 refine ⟨yw (ν ++ [.list L] ++ [ls (qH x)] ++ [.list (((qH x).map isE).map .bool)]) N (zs ++ [(.loc (ν ++ [q8.list L] ++ [ls (qH x)]).length, .lst ((qH x).map isE))]), T', d', H', zs ++ [(.loc (ν ++ [q8.list L] ++ [ls (qH x)]).length, .lst ((qH x).map isE))], ?_, p2.note (z := (.loc (ν ++ [q8.list L] ++ [ls (qH x)]).length, .lst ((qH x).map isE))) ⟨_, rfl, hne (hp.t.lt), hne (yZ p1.nl), q6⟩, zG⟩
 exact ql [fV (xE (μ := μ) k1), fV (qE (μ := μ) k2), fV (qE (μ := μ) k3), fV (qE (μ := μ) k4), fV (hp.e), fI (yS p1), fL (je p1.nl), fV (jz (μ := ν) k8), fI (hp.t.i), .c (hp.t.ok (x := Pv "get") rfl : qn ν d' (Pv "get") = true), fV (h134 (n + 69)), fV (h43), fR (qK hpl), fV (hc (n + 85)), fV (y2 (v := .loc (ν ++ [q8.list L] ++ [ls (qH x)]).length) p2.nl hL (.lst ((qH x).map isE)))] (by kernel_rfl)
structure GX where
 o : Option St
 T : Nat
 zs : ZL
 μ : q4
structure Ox (G : Nat -> Ps -> List jG -> Prop) (μ0 : q4) (N i : Nat) (a : GX) (d H : Nat) (rows : Ps) : Prop where
 g : G i rows (a.zs.map Rh)
 p : xl μ0 a.μ a.T d H N rows a.zs
def D8 (G : Nat -> Ps -> List jG -> Prop) (μ0 : q4) (N i : Nat) (a : GX) : Prop := ∃ d H rows, Ox G μ0 N i a d H rows
theorem M0 {o : Option St} : qu (ve P T N o) (y5 (qo 230).body) s.pv = some (ve P T N (some s)) := by induction o <;> kernel_rfl
theorem Cx {G : Nat -> Ps -> List jG -> Prop} {steps : List St} {a : GX} (hS : q5 μ0 P = some (steps.map St.pv))
 (hstep : ∀ i (hi : i < steps.length) μ T d H rows zs, G i rows (zs.map Rh) -> xl μ0 μ T d H N rows zs -> ∃ rows' ns', wt n P μ0 μ T N steps[i] rows' ns' /\ G (i + 1) rows' ns') (h : D8 G μ0 N 0 a) :
 ∃ b, zQ (evN ftT (n + 100)) (.list P) (y5 (qo 230).body) Co (steps.length + 1) 0 (ve P a.T N a.o) a.μ = some (.ok .next, ve P b.T N b.o, b.μ) /\ D8 G μ0 N steps.length b := by
 refine xu (N := steps.length) (S := fun a : GX => ve P a.T N a.o) (M := fun a => a.μ) (P := D8 G μ0 N) (Q := fun R => ∃ b : GX, R = some (.ok .next, ve P b.T N b.o, b.μ) /\ D8 G μ0 N steps.length b) (fun i a hi h => ?_) (fun b h => ⟨?_, b, rfl, h⟩) h
 ·obtain ⟨d, H, rows, h⟩ := h
  obtain ⟨rows', ns', ⟨ν, T', d', H', zs', t⟩, g⟩ := hstep i hi a.μ a.T d H rows a.zs h.g h.p
  refine ⟨steps[i].pv, _, ?_, M0, .inl ⟨.next, ⟨some steps[i], T', zs', ν⟩, .inl rfl, t.e, d', H', rows', t.z ▸ g, t.p⟩⟩
  rw [qG (h.p.ext.list hS), PY hi]; rfl
 ·obtain ⟨d, H, rows, h⟩ := h
  rw [qG (h.p.ext.list hS), RC (PK _)]; rfl
noncomputable abbrev Y6 (μ : q4) : q4 := ntS μ [("_headers", .loc (μ.length + 2))] [.list []]
theorem DK {G : Nat -> Ps -> List jG -> Prop} {steps : List St} (hS : q5 μ P = some (steps.map St.pv)) (hG : G 0 [] [])
 (hstep : ∀ i (hi : i < steps.length) μ1 T d H N rows zs, G i rows (zs.map Rh) -> xl μ μ1 T d H N rows zs -> ∃ rows' ns', wt n P μ μ1 T N steps[i] rows' ns' /\ G (i + 1) rows' ns') :
 ∃ ν T' d' H' N rows' zs', (evN ftT (n + 102)).call 230 [.loc P] [] μ = some (.ok (.tup [.loc T', .loc N]), ν) /\ xl μ ν T' d' H' N rows' zs' /\ G steps.length rows' (zs'.map Rh) := by
 have hlen : (Y6 μ).length = μ.length + 3 := by rw [PB]; rfl
 have e : Y6 μ ++ [.list []] = μ ++ ([.dict [("_headers", .loc (μ.length + 2))], .inst μ.length, .list []] ++ [.list []]) := PH ..
 have p0 : xl μ (Y6 μ ++ [.list []]) (μ.length + 1) μ.length (μ.length + 2) (Y6 μ).length [] [] := ⟨⟨by rw [e, PB]; exact Rd .., fun a ha => by rw [e]; exact jN ha⟩, (Jv (rows := []) GO).app, Rd .., by rw [hlen]; exact Rd .., q6, by rw [hlen]; exact RZ (RU _), fun zz h => nomatch h⟩
 obtain ⟨b, hl, d, H, rows, g⟩ := Cx (n := n) (a := ⟨none, μ.length + 1, [], Y6 μ ++ [.list []]⟩) hS (fun i hi μ1 T d H rows zs => hstep i hi μ1 T d H (Y6 μ).length rows zs) ⟨_, _, _, hG, p0⟩
 have hs := qK (p0.ext.list hS)
 rw [PJ] at hs
 refine ⟨b.μ, b.T, d, H, (Y6 μ).length, rows, b.zs, ?_, g.p, g.g⟩
 exact jv (n := n) (k := 101) [fV ((fun n => LR (n := n) (μ := μ)) (n + 59)), fR (hs), fS (hl)] (by kernel_rfl)
end
noncomputable def bk (p : PV) (q : Int) : PV := match qx p with
 | some t => back t q
 | none => p
noncomputable def bkJ (p : PV) (q : Int) : q4 := match qx p with
 | some t => QG t q
 | none => []
def TL1 (p : PV) : Prop := p = .none \/ p = .int 0 \/ ∃ s, p = .str s /\ Pz s = true /\ s.length <= 1000
noncomputable def YT (c : Nat) : Bool := [10, 13, 31, 127].contains c
noncomputable def Z4 (t : Str) : List Str := (t.cps.toList.filter YT).map ch
section
variable {n D N P Sx m k : Nat} {p v : PV} {q kd : Int} {μ μ0 ν J : q4} {s : Str} {x : St} {es pa pb page : Loc} {zs : ZL} {tl : Loc} {c : Nat} {b t : Bool} {l : List Str}
theorem Wb (h : TL1 p) : (evN ftT (n + 20)).call 235 [p, .int q] [] μ = some (.ok (bk p q), μ ++ bkJ p q) := by
 rcases h with rfl | rfl | ⟨s, rfl, h1, h2⟩
 ·rw [Ka]; show _ = some (_, μ ++ []); rw [PS]; rfl
 ·rw [Vs]; show _ = some (_, μ ++ []); rw [PS]; rfl
 ·exact Xc h1 h2
theorem O8 (t : Str) : (Z4 t).isEmpty = gd t := by
 unfold gd Z4
 induction t.cps.toList with
 | nil => rfl
 | cons c l ih =>
   rw [TS, filter_cons]
   show _ = !(YT c || _)
   induction YT c with
   | true => rfl
   | false => exact ih
theorem WO {d : List Int} : qY .In (.int q) (.tup (d.map .int)) μ = some (.ok (.bool (d.any fun y => y == q)), μ) := by
 have e : jd μ (.tup (d.map .int)) = some (.tuple (d.map .int)) := by
  have e1 : jj (jK μ 7) (d.map .int) = some (d.map .int) := by
   induction d with
   | nil => rfl
   | cons a d ih => show (jj (jK μ 7) (d.map .int)).map _ = _; rw [ih]; rfl
  have e2 : RD (d.map .int) = true /\ Rz (d.map .int) = 0 := by
   clear e1
   induction d with
   | nil => exact ⟨rfl, rfl⟩
   | cons a d ih => exact ⟨ih.1, show max 0 (Rz (d.map .int)) = 0 by rw [ih.2]; rfl⟩
  show (((jj (jK μ 7) (d.map .int)).map Ag).bind _) = _
  rw [e1]
  refine if_pos ?_
  show (RD (d.map .int) && decide (Rz (d.map .int) + 1 <= 64)) = true
  rw [e2.1, e2.2]; rfl
 show (pin μ (.int q) (.tup (d.map .int))).map _ = _
 show (((some (Ua.int q)).bind fun x => (jd μ (.tup (d.map .int))).bind _).map _) = _
 rw [PL, e]
 show some (Rs (PV.bool ((d.map Ua.int).any fun y => Sn y (.int q))), μ) = _
 rw [An]; rfl
theorem HS : ([10, 13, 31, 127] : List Int).any (fun y => y == (c : Int)) = YT c := by
 have h : ∀ k : Nat, ((k : Int) == (c : Int)) = (c == k) := fun k => by
  by_cases e : k = c
  ·rw [e, beq_self_eq_true, beq_self_eq_true]
  ·rw [show ((k : Int) == (c : Int)) = false from beq_eq_false_iff_ne.mpr fun h => e (T3 h), beq_eq_false_iff_ne.mpr (SO e)]
 show (((10 : Nat) : Int) == (c : Int) || (((13 : Nat) : Int) == (c : Int) || (((31 : Nat) : Int) == (c : Int) || (((127 : Nat) : Int) == (c : Int) || false)))) = _
 rw [h, h, h, h]; rfl
noncomputable def sv2 : Option (St × Loc) -> Loc
 | none => []
 | some q => ("kind", .int q.1.kind) :: ("name", .str q.1.name) :: ("key", .str q.1.key) :: ("text", .str q.1.text) :: ("quote", .int q.1.quote) :: q.2
noncomputable abbrev zT (Sx N D : Nat) (o : Option (St × Loc)) : LE := ⟨qm 240, ("steps", .loc Sx) :: ("notes", .loc N) :: ("book", .loc D) :: sv2 o⟩
noncomputable abbrev YK : List Sf := qV (qo 240).body
noncomputable abbrev due (i : Nat) : List Sf := (YK.drop i).take 1
noncomputable abbrev ym : Expr := sE YK 1 0 [0]
noncomputable abbrev Qc : Expr := sE YK 4 0 []
noncomputable abbrev Ca (vs : Loc) : LE := ⟨(LE.comp (zT 0 0 0 none) (lcN ym)).sc, vs⟩
theorem Et : qu (Ca tl) (qt ym) v = some (Ca (upd tl "sign" v)) := by kernel_rfl
theorem CG : (evN ftT (n + 8)).ev (Ca (upd tl "sign" v)) (lcE ym) μ = some (.ok v, μ) := by
 have h := zt (x := "sign") (p := v) (l := tl)
 exact xO [fG (h)] (by kernel_rfl)
theorem Hv : zW (evN ftT (n + 8)) (Ca (upd tl "sign" (.str (ch c)))) (qD ym) μ = some (.ok (YT c), μ) := by
 have h := WO (μ := μ) (q := (c : Int)) (d := [10, 13, 31, 127])
 have h1 := zt (x := "sign") (p := .str (ch c)) (l := tl)
 rw [HS] at h
 exact Qh [fG (h1), .d, fV (h), fT (jF (t := YT c) (μ := μ))] (by kernel_rfl)
theorem B1 (hl : s.length <= Pr) : qF (evN ftT (n + 8)) (LE.comp (zT Sx N D (some (x, tl))) (lcN ym)) (lcE ym) (qt ym) (qD ym) (.str s, s.length + 1) μ = some (.ok (.loc μ.length), μ ++ [ls (Z4 s)]) := by
 have h := qU (r := evN ftT (n + 8)) (target := qt ym) (elt := lcE ym) (ifs := qD ym) (f := fun c => .str (ch c)) (g := YT) (Inv := fun σ => ∃ o, σ = Ca o) (fun c => .str (ch c)) (gi (s := s) (μ := μ))
  (fun σ c ⟨o, e⟩ hk => ⟨_, e ▸ Et, ⟨_, rfl⟩, Hv, fun zz => CG⟩) (s.length + 1) 0 (LE.comp (zT Sx N D (some (x, tl))) (lcN ym)) ⟨_, rfl⟩ (by rw [zj]) (Rj _)
 refine (qA h ?_).trans ?_
 ·rw [PJ]; exact Pq (RY _ _) (zj (s := s) ▸ hl)
 ·unfold ls Z4; rw [Su]; rfl
noncomputable abbrev Cb (kd : Int) (vs : Loc) : LE := ⟨(LE.comp (zT 0 0 0 none) (lcN Qc)).sc, ("kind", .int kd) :: vs⟩
noncomputable abbrev ub (tl : Loc) (e : Str × PV) : Loc := upd (upd tl "one" (.str e.1)) "old" e.2
theorem Ci {e : Str × PV} : qu (Cb kd tl) (qt Qc) (qB e) = some (Cb kd (ub tl e)) := by kernel_rfl
noncomputable def gz (kd : Int) : Int := if kd = 6 then 1 else 0
theorem C5 {e : Str × PV} (h : TL1 e.2) : (evN ftT (n + 40)).ev (Cb kd (ub tl e)) (lcE Qc) μ = some (.ok (qB (e.1, bk e.2 (gz kd))), μ ++ bkJ e.2 (gz kd)) := by
 have h1 : Sg ("one" : Str) (ub tl e) = some (.str e.1) := (jO (by decide)).trans zt
 have h2 : Sg ("old" : Str) (ub tl e) = some e.2 := zt
 unfold gz
 by_cases h6 : kd = 6
 ·rw [if_pos h6]
  exact xO [fG (h1), fG (h2), fV (jz (μ := μ) h6), fV (Wb (n := n + 18) (q := 1) (μ := μ) h)] (by kernel_rfl)
 ·rw [if_neg h6]
  exact xO [fG (h1), fG (h2), fV (qE (μ := μ) h6), fV (Wb (n := n + 18) (q := 0) (μ := μ) h)] (by kernel_rfl)
theorem Fc (hm : q5 μ m = some (es.map qB)) (hr : es.length <= Pr) (hw : ∀ e ∈ es, TL1 e.2) :
 ∃ J, qF (evN ftT (n + 40)) (LE.comp (zT Sx N D (some (x, tl))) (lcN Qc)) (lcE Qc) (qt Qc) (qD Qc) (.list m, es.length + 1) μ = some (.ok (.loc (μ ++ J).length), μ ++ J ++ [.list (es.map fun e => qB (e.1, bk e.2 (gz x.kind)))]) :=
 yl (Inv := fun σ => ∃ o, σ = Cb x.kind o) (by kernel_rfl) qB (vn hm) (fun σ e J ⟨o, ho⟩ he => ⟨_, bkJ e.2 (gz x.kind), ho ▸ Ci, ⟨_, rfl⟩, by
  rw [<- PH μ]
  exact C5 (hw e he)⟩) ⟨_, rfl⟩ hr
end
noncomputable def AB : Str := "ab"
noncomputable def XM : Str := "x-"
theorem X7 : XM ≠ AB := by decide +kernel
structure Pj (μ : q4) (D N a b : Nat) (pa pb : Loc) : Prop where
 d : qe μ D = some [(AB, .loc a), (XM, .loc b)]
 na : a ≠ N
 nb : b ≠ N
 la : q5 μ a = some (pa.map qB)
 lb : q5 μ b = some (pb.map qB)
structure zM (μ0 μ : q4) (D N : Nat) (pa pb : Loc) (zs : ZL) : Prop where
 ext : Ext μ0 μ
 hD : μ0.length <= D
 hN : μ0.length <= N
 nn : N ≠ D
 nl : q5 μ N = some (zs.map RN)
 reps : ∀ z ∈ zs, jV μ D N z.1 z.2
 bk : ∃ a b, Pj μ D N a b pa pb
section
variable {n D N P Sx m k V X : Nat} {p v : PV} {q kd : Int} {μ μ0 ν J : q4} {s nm : Str} {x : St} {es pa pb page new : Loc} {zs : ZL} {tl : Loc} {c : Nat} {b t : Bool} {l : List Str} {dl : Loc}
theorem YR (h : qe μ D = some dl) : μ[D]? = some (.dict dl) := by
 obtain ⟨c, hc, hl⟩ := bnd h
 rw [hc]
 induction c <;> first | exact no hl | exact congrArg _ (congrArg _ (qk hl))
theorem kG (h : qe μ D = some dl) (e : ν[D]? = μ[D]?) : qe ν D = some dl := (congrArg (·.bind wx) e).trans h
theorem Wq (h : qe μ D = some dl) : D < μ.length := (R0.mp (YR h)).1
theorem kc (k : qi μ X ν) (hX : X = D \/ X = N \/ μ.length <= X) {z : jG} (h : jV μ D N p z) : jV ν D N p z :=
 h.mono fun a l q h1 h2 => ⟨h1, k.list q (hX.elim (fun e => e ▸ h1) fun hX => hX.elim (fun e => e ▸ h2) fun hX => RQ (PZ (yZ q) hX))⟩
theorem zM.app (d : zM μ0 μ D N pa pb zs) : zM μ0 (μ ++ J) D N pa pb zs := by
 obtain ⟨a, b, h⟩ := d.bk
 have k : qi μ N (μ ++ J) := qi.app
 exact ⟨d.ext.keep k d.hN, d.hD, d.hN, d.nn, qc d.nl, fun z hz => kc k (.inr (.inl rfl)) (d.reps z hz), a, b, kG h.d (jN (Wq h.d)), h.na, h.nb, qc h.la, qc h.lb⟩
theorem zM.note {z : PV × jG} (d : zM μ0 μ D N pa pb zs) (hv : jV μ D N z.1 z.2) : zM μ0 (yw μ N (zs ++ [z])) D N pa pb (zs ++ [z]) := by
 obtain ⟨a, b, h⟩ := d.bk
 have k : qi μ N (yw μ N (zs ++ [z])) := qi.set0
 refine ⟨d.ext.keep k d.hN, d.hD, d.hN, d.nn, congrArg (·.bind kh) (vz (yZ d.nl)), fun y hy => kc k (.inr (.inl rfl)) ?_, a, b, kG h.d (w9 (SO d.nn)), h.na, h.nb, k.list h.la h.na, k.list h.lb h.nb⟩
 exact (PU.mp hy).elim (d.reps y) fun h => by rw [Pw.mp h]; exact hv
noncomputable def qv (pa pb : Loc) (nm : Str) : Loc := if nm = AB then pa else pb
theorem Of {a b : Nat} : x9 [(AB, PV.loc a), (XM, .loc b)] AB = some (.loc a) := by kernel_rfl
theorem MY {a b : Nat} : x9 [(AB, PV.loc a), (XM, .loc b)] XM = some (.loc b) := by kernel_rfl
theorem Nc {a b : Nat} : qR [(AB, PV.loc a), (XM, .loc b)] AB v = [(AB, v), (XM, .loc b)] := by kernel_rfl
theorem Mw {a b : Nat} : qR [(AB, PV.loc a), (XM, .loc b)] XM v = [(AB, .loc a), (XM, v)] := by kernel_rfl
structure O2 (μ : q4) (D N P : Nat) (nm : Str) (page : Loc) : Prop where
 i : za (.loc D) (.str nm) μ = some (.ok (.loc P), μ)
 n : P ≠ N
 l : q5 μ P = some (page.map qB)
theorem WE (h : qe μ D = some dl) (hk : x9 dl s = some v) : za (.loc D) (.str s) μ = some (.ok v, μ) := by
 show (qe μ D).bind _ = _
 rw [h, PL, hk]; rfl
theorem zM.pg (d : zM μ0 μ D N pa pb zs) (h : nm = AB \/ nm = XM) : ∃ P, O2 μ D N P nm (qv pa pb nm) := by
 obtain ⟨a, b, q⟩ := d.bk
 unfold qv
 rcases h with rfl | rfl
 ·rw [if_pos rfl]; exact ⟨a, WE q.d Of, q.na, q.la⟩
 ·rw [if_neg X7]; exact ⟨b, WE q.d MY, q.nb, q.lb⟩
theorem zM.store (d : zM μ0 μ D N pa pb zs) (h : nm = AB \/ nm = XM) (hv : q5 μ V = some (new.map qB)) (hV : V ≠ N) :
 ∃ ν, Xy (.loc D) nm (.loc V) μ = some (.ok .none, ν) /\ zM μ0 ν D N (if nm = AB then new else pa) (if nm = AB then pb else new) zs := by
 obtain ⟨a, b, q⟩ := d.bk
 have hg := YR q.d
 have ne : ∀ {a : Nat} {l : List PV}, q5 μ a = some l -> a ≠ D := fun h e => by
  have h := vY h
  rw [e, hg] at h; exact no (congrArg (fun o => Option.bind o kh) h)
 have k : ∀ c, qi μ D (qj μ D c) := fun c => qi.set0
 have hs : ∀ l', qe (qj μ D (.dict l')) D = some l' := fun l' => by unfold qe; rw [vz (Wq q.d)]; rfl
 have e : Xy (.loc D) nm (.loc V) μ = some (.ok .none, qj μ D (.dict (qR [(AB, .loc a), (XM, .loc b)] nm (.loc V)))) := by
  show (qe μ D).bind _ = _
  rw [q.d, PL, if_pos (show ([(AB, PV.loc a), (XM, .loc b)] : Loc).length + 1 <= Pr from (by decide : 3 <= Pr))]
 have mk : ∀ c, Ext μ0 (qj μ D c) /\ q5 (qj μ D c) N = some (zs.map RN) /\ ∀ z ∈ zs, jV (qj μ D c) D N z.1 z.2 := fun c => ⟨d.ext.keep (k c) d.hD, (k c).list d.nl d.nn, fun z hz => kc (k c) (.inl rfl) (d.reps z hz)⟩
 refine ⟨_, e, ?_⟩
 rcases h with rfl | rfl
 ·rw [if_pos rfl, if_pos rfl, Nc]
  have m := mk (.dict [(AB, .loc V), (XM, .loc b)])
  exact ⟨m.1, d.hD, d.hN, d.nn, m.2.1, m.2.2, V, b, hs _, hV, q.nb, (k _).list hv (ne hv), (k _).list q.lb (ne q.lb)⟩
 ·rw [if_neg X7, if_neg X7, Mw]
  have m := mk (.dict [(AB, .loc a), (XM, .loc V)])
  exact ⟨m.1, d.hD, d.hN, d.nn, m.2.1, m.2.2, a, V, hs _, q.na, hV, (k _).list q.la (ne q.la), (k _).list hv (ne hv)⟩
theorem Hz (h : qe μ D = some dl) : qw μ (.loc D) = none := by
 show (μ[D]?).bind xA = _
 rw [YR h]; rfl
noncomputable abbrev u1 (tl : Loc) (P : Nat) : Loc := upd tl "page" (.loc P)
noncomputable abbrev u2 (tl : Loc) (P : Nat) (g : Bool) : Loc := upd (u1 tl P) "good" (.bool g)
noncomputable abbrev u3 (tl : Loc) (P : Nat) (g : Bool) (F : Nat) : Loc := upd (u2 tl P g) "fresh" (.loc F)
noncomputable abbrev u4 (tl : Loc) (P : Nat) (g : Bool) (F T : Nat) : Loc := upd (u3 tl P g F) "thin" (.loc T)
noncomputable abbrev JJ (n i Sx N D : Nat) (x : St) (tl : Loc) (μ : q4) : SR' := (evN ftT (n + 100)).ex (zT Sx N D (some (x, tl))) (due i) μ
theorem OE (hl : (Pt x.name).length <= Pr) (hp : O2 μ D N P (Pt x.name) page) : JJ n 0 Sx N D x tl μ = some (.ok .next, zT Sx N D (some (x, u1 tl P)), μ) := by
 have h1 := zq (μ := μ) hl
 exact ql [fV (h1), fV (hp.i)] (by kernel_rfl)
theorem C6 (hm : q5 ν m = some (l.map .str)) (h : ∀ y ∈ l, Pz y = true) (ht : l.isEmpty = t) : qY .Eq (.loc m) (.loc ν.length) (ν ++ [.list []]) = some (.ok (.bool t), ν ++ [.list []]) := by
 have e : jd (ν ++ [.list []]) (.loc ν.length) = some (.list []) := jc (l := []) q6 (fun zz q => nomatch q)
 show (peq _ _ _).map _ = _
 unfold peq
 rw [jc (qc hm) h, e, <- ht]
 induction l <;> rfl
theorem Oz (hs : Pz x.text = true) (hl : x.text.length <= Pr) : JJ n 1 Sx N D x (u1 tl P) μ = some (.ok .next, zT Sx N D (some (x, u2 tl P (gd x.text))), μ ++ [ls (Z4 x.text)] ++ [.list []]) := by
 have hok : ∀ y ∈ Z4 x.text, Pz y = true := fun y hy => by
  obtain ⟨c, hc, rfl⟩ := Ri.mp hy
  exact Q1 (Ja hs (RM.mp hc).1)
 have hq := C6 (ν := μ ++ [ls (Z4 x.text)]) (m := μ.length) q6 hok (O8 x.text)
 exact ql [fV ((fun n => B1 (n := n) (Sx := Sx) (N := N) (D := D) (x := x) (tl := u1 tl P) (μ := μ) hl) (n + 89)), .d, fV (hq)] (by kernel_rfl)
noncomputable def qO (s : St) : Loc := if gd s.text = true then [(if s.kind = 1 then zed ++ s.key else s.key, back s.text (if s.kind < 2 then 1 else s.quote))] else []
theorem OD {g : Bool} (f : StF x) (hg : gd x.text = g) : ∃ J, JJ n 3 Sx N D x (u2 tl P g) μ = some (.ok .next, zT Sx N D (some (x, u3 tl P g (μ ++ J).length)), μ ++ J ++ [.list ((qO x).map qB)]) := by
 have h1 : Sg ("good" : Str) (u2 tl P g) = some (.bool g) := zt
 have hb := fun n q => Xc (n := n) (s := x.text) (q := q) (μ := μ) f.w.o f.w.l
 unfold qO
 rw [hg]
 induction g with
 | false =>
   refine ⟨[], ?_⟩
   rw [PS, if_neg (by decide)]
   exact ql [fG (h1)] (by kernel_rfl)
 | true =>
   rw [if_pos rfl]
   by_cases hk : x.kind = 1
   ·have k1 : (x.kind : Int) = 1 := by rw [hk]; rfl
    have k2 : (x.kind : Int) < 2 := by rw [hk]; decide
    have c1 : (zed ++ x.key).length <= Pr := fit (jQ (PK 3) f.kl) (by decide)
    refine ⟨QG x.text 1, ?_⟩
    rw [if_pos hk, if_pos (by rw [hk]; decide)]
    exact ql [fG (h1), fV (jz (μ := μ) k1), fV (jt (a := zed) (b := x.key) (μ := μ) c1), fV (yo (μ := μ) k2), fV (hb (n + 75) (1))] (by kernel_rfl)
   ·have k1 : (x.kind : Int) ≠ 1 := fun e => hk (T3 e)
    rw [if_neg hk]
    by_cases h2 : x.kind < 2
    ·have k2 : (x.kind : Int) < 2 := SZ.mpr h2
     refine ⟨QG x.text 1, ?_⟩
     rw [if_pos h2]
     exact ql [fG (h1), fV (qE (μ := μ) k1), fV (yo (μ := μ) k2), fV (hb (n + 75) (1))] (by kernel_rfl)
    ·have k2 : ¬ (x.kind : Int) < 2 := fun e => h2 (SZ.mp e)
     refine ⟨QG x.text x.quote, ?_⟩
     rw [if_neg h2]
     exact ql [fG (h1), fV (qE (μ := μ) k1), fV (xE (μ := μ) k2), fV (hb (n + 75) (↑(St.quote (RN (x, u2 tl P true)))))] (by kernel_rfl)
noncomputable def xJ (s : St) (page : Loc) : Loc := page.map fun e => (e.1, bk e.2 (gz s.kind))
theorem OA {F : Nat} {g : Bool} (hm : q5 μ P = some (page.map qB)) (hr : page.length <= Pr) (hw : ∀ e ∈ page, TL1 e.2) :
 ∃ J, JJ n 4 Sx N D x (u3 tl P g F) μ = some (.ok .next, zT Sx N D (some (x, u4 tl P g F (μ ++ J).length)), μ ++ J ++ [.list ((xJ x page).map qB)]) := by
 have h1 : Sg ("page" : Str) (u3 tl P g F) = some (.loc P) := (jO (by decide)).trans ((jO (by decide)).trans zt)
 obtain ⟨J, hc⟩ := Fc (n := n + 58) (Sx := Sx) (N := N) (D := D) (x := x) (tl := u3 tl P g F) hm hr hw
 have hs := qK hm
 rw [PJ] at hs
 have e : (xJ x page).map qB = page.map fun e => qB (e.1, bk e.2 (gz x.kind)) := Su
 refine ⟨J, ?_⟩
 rw [e]
 exact ql [fG (h1), fR (hs), fV (hc)] (by kernel_rfl)
end
noncomputable def xG (s : St) (page : Loc) : List jG := if s.kind < 4 /\ gd s.text = false /\ (s.kind < 3 \/ page = []) then [.ctl] else if s.kind = 2 \/ s.kind = 4 then [] else if s.kind = 3 then [.yes true] else if s.kind = 8 then [.lst (Rw page.length [false, true]).flatten] else [.no]
noncomputable def kM (k : Nat) (page fresh thin : Loc) : Loc :=
 if k < 2 then page ++ fresh else if k = 2 then fresh else if k = 3 then (if page = [] then fresh else page) else if k = 4 then [] else if k = 6 \/ k = 7 then thin else page
noncomputable def zm (s : St) (page : Loc) : Loc := kM s.kind page (qO s) (xJ s page)
section
variable {n D N P Sx m k V X F Th : Nat} {p v : PV} {q kd : Int} {μ μ0 ν J : q4} {s nm : Str} {x : St} {es pa pb page new fresh thin : Loc} {zs : ZL} {tl : Loc} {c : Nat} {b t g : Bool} {l : List PV} {dl : Loc}
def D2 (n Sx : Nat) (μ0 μ : q4) (D N P : Nat) (pa pb : Loc) (x : St) (tl : Loc) (g : Bool) (zs : ZL) (ns : List jG) : Prop :=
 ∃ ν zs', JJ n 2 Sx N D x (u2 tl P g) μ = some (.ok .next, zT Sx N D (some (x, u2 tl P g)), ν) /\ zM μ0 ν D N pa pb zs' /\ qi μ N ν /\ zs'.map Rh = zs.map Rh ++ ns
theorem wa {J : q4} {z : PV × jG} (d : zM μ0 μ D N pa pb zs) (hz : jV (μ ++ J) D N z.1 z.2) (hr : JJ n 2 Sx N D x (u2 tl P g) μ = some (.ok .next, zT Sx N D (some (x, u2 tl P g)), yw (μ ++ J) N (zs ++ [z]))) : D2 n Sx μ0 μ D N P pa pb x tl g zs [z.2] :=
 ⟨_, zs ++ [z], hr, d.app.note hz, qi.trans qi.app qi.set0 (.inl rfl), zG⟩
theorem Dm {J : q4} (d : zM μ0 μ D N pa pb zs) (hr : JJ n 2 Sx N D x (u2 tl P g) μ = some (.ok .next, zT Sx N D (some (x, u2 tl P g)), μ ++ J)) : D2 n Sx μ0 μ D N P pa pb x tl g zs [] :=
 ⟨_, zs, hr, d.app, qi.app, (PS _).symm⟩
theorem KH : Sg ("good" : Str) (u2 tl P g) = some (.bool g) := zt
theorem HL : Sg ("page" : Str) (u2 tl P g) = some (.loc P) := (jO (by decide)).trans zt
theorem EJ : qY .NotIn (.int q) (.tup [.int 2, .int 4]) μ = some (.ok (.bool (!(([2, 4] : List Int).any fun y => y == q))), μ) := by
 have h := WO (μ := μ) (q := q) (d := [2, 4])
 have h : (pin μ (.int q) (.tup [.int 2, .int 4])).map (fun r => (Rs (PV.bool r), μ)) = some (Rs (PV.bool (([2, 4] : List Int).any fun y => y == q)), μ) := h
 refine (show qY .NotIn (.int q) (.tup [.int 2, .int 4]) μ = (pin μ (.int q) (.tup [.int 2, .int 4])).map (fun r => (Rs (PV.bool (!r)), μ)) from rfl).trans ?_
 induction hp : pin μ (.int q) (.tup [.int 2, .int 4]) with
 | none => rw [hp] at h; exact nomatch h
 | some r =>
   rw [hp] at h
   injection h with h; injection h with h _; injection h with h; injection h with h
   rw [<- h]; rfl
theorem XG (h2 : q ≠ 2) (h4 : q ≠ 4) : qY .NotIn (.int q) (.tup [.int 2, .int 4]) μ = some (.ok (.bool true), μ) := by
 rw [EJ, TS, TS, beq_eq_false_iff_ne.mpr (SO h2), beq_eq_false_iff_ne.mpr (SO h4)]; rfl
theorem Hm (h : q = 2 \/ q = 4) : qY .NotIn (.int q) (.tup [.int 2, .int 4]) μ = some (.ok (.bool false), μ) := by
 rw [EJ]; rcases h with rfl | rfl <;> rfl
theorem V4 (hm : q5 μ m = some (page.map qB)) (h : ∀ e ∈ page, EOK e) (ht : page.isEmpty = t) : qY .Eq (.loc m) (.loc μ.length) (μ ++ [.list []]) = some (.ok (.bool t), μ ++ [.list []]) := by
 have e : jd (μ ++ [.list []]) (.loc μ.length) = some (.list []) := jc (l := []) q6 (fun zz q => nomatch q)
 show (peq _ _ _).map _ = _
 unfold peq
 rw [zA (qc hm) h, e, <- ht]
 induction page <;> rfl
theorem IV (h : q5 μ m = some l) : GH (.loc m) μ = some (.ok (.int l.length), μ) := by
 show (q5 μ m).bind _ = _
 rw [h]; rfl
noncomputable abbrev FT2 : q8 := .list [.bool false, .bool true]
theorem Mx (hk : k <= 1000) : kK .Mult (.loc μ.length) (.int (k : Int)) (μ ++ [FT2]) = some (.ok (.loc (μ ++ [FT2]).length), μ ++ [FT2] ++ [.list ((Rw k [false, true]).flatten.map .bool)]) := by
 show (q5 (μ ++ [FT2]) μ.length).bind _ = _
 rw [q6, PL]
 have e24 : Pr = 16777216 := by decide
 refine (if_pos ⟨by lia, by lia, by rw [Ue, e24]; show 2 * k <= _; lia⟩).trans ?_
 rw [Ue, List.map_flatten, List.map_replicate]; rfl
theorem Op (d : zM μ0 μ D N pa pb zs) (hm : q5 μ P = some (page.map qB)) (hE : ∀ e ∈ page, EOK e) (hL : zs.length <= 1000) (hpl : page.length <= 1000) (hg : gd x.text = g) : D2 n Sx μ0 μ D N P pa pb x tl g zs (xG x page) := by
 have hi : qw μ (.loc N) = none := jg d.nl
 have hl := je d.nl
 unfold xG
 rw [hg]
 by_cases hA : x.kind < 4 /\ g = false /\ (x.kind < 3 \/ page = [])
 ·rw [if_pos hA]
  obtain ⟨h4, rfl, h3⟩ := hA
  have k4 : (x.kind : Int) < 4 := SZ.mpr h4
  by_cases k : x.kind < 3
  ·have k3 : (x.kind : Int) < 3 := SZ.mpr k
   refine wa (J := []) (z := (.str CTL, .ctl)) d rfl ?_
   rw [PS]
   exact ql [fV (yo (μ := μ) k4), fG (KH (tl := tl) (P := P) (g := false)), fV (yo (μ := μ) k3), fI (hi), fL (hl), fV (y2 (v := .str CTL) d.nl hL .ctl)] (by kernel_rfl)
  ·have k3 : ¬ (x.kind : Int) < 3 := fun e => k (SZ.mp e)
   have he := h3.resolve_left k
   refine wa (J := [.list []]) (z := (.str CTL, .ctl)) d rfl ?_
   have d' := d.app (J := [.list []])
   have hi' : qw (μ ++ [.list []]) (.loc N) = none := jg d'.nl
   exact ql [fV (yo (μ := μ) k4), fG (KH (tl := tl) (P := P) (g := false)), fV (xE (μ := μ) k3), fG (HL (tl := tl) (P := P) (g := false)), .d, fV (V4 (t := true) hm hE (by rw [he]; rfl)), fI (hi'), fL (je d'.nl), fV (y2 (v := .str CTL) d'.nl hL .ctl)] (by kernel_rfl)
 ·rw [if_neg hA]
  by_cases h24 : x.kind = 2 \/ x.kind = 4
  ·rw [if_pos h24]
   have k24 : (x.kind : Int) = 2 \/ (x.kind : Int) = 4 := h24.imp (fun e => by rw [e]; rfl) fun e => by rw [e]; rfl
   refine Dm (J := []) d ?_
   rw [PS]
   by_cases k : x.kind < 4
   ·have k4 : (x.kind : Int) < 4 := SZ.mpr k
    have hgt : g = true := by induction g with
     | true => rfl
     | false => exact absurd ⟨k, rfl, .inl (by lia)⟩ hA
    subst hgt
    exact ql [fV (yo (μ := μ) k4), fG (KH (tl := tl) (P := P) (g := true)), fV ((Hm k24 : qY U8 (PV.int ↑(St.kind x)) (PV.tup [PV.int 2, PV.int 4]) μ = some (Rs (PV.bool false), μ)))] (by kernel_rfl)
   ·have k4 : ¬ (x.kind : Int) < 4 := fun e => k (SZ.mp e)
    exact ql [fV (xE (μ := μ) k4), fV ((Hm k24 : qY U8 (PV.int ↑(St.kind x)) (PV.tup [PV.int 2, PV.int 4]) μ = some (Rs (PV.bool false), μ)))] (by kernel_rfl)
  ·rw [if_neg h24]
   have k2 : (x.kind : Int) ≠ 2 := fun e => h24 (.inl (T3 e))
   have k4' : (x.kind : Int) ≠ 4 := fun e => h24 (.inr (T3 e))
   by_cases h3 : x.kind = 3
   ·rw [if_pos h3]
    have k3 : (x.kind : Int) = 3 := by rw [h3]; rfl
    have k4 : (x.kind : Int) < 4 := by rw [h3]; decide
    have k33 : ¬ (x.kind : Int) < 3 := by rw [h3]; decide
    induction g with
    | true =>
      refine wa (J := []) (z := (.bool true, .yes true)) d rfl ?_
      rw [PS]
      exact ql [fV (yo (μ := μ) k4), fG (KH (tl := tl) (P := P) (g := true)), fV ((XG k2 k4' : qY U8 (PV.int ↑(St.kind x)) (PV.tup [PV.int 2, PV.int 4]) μ = some (Rs (PV.bool true), μ))), fI (hi), fL (hl), fV (jz (μ := μ) k3), fV (y2 (v := .bool true) d.nl hL (.yes true))] (by kernel_rfl)
    | false =>
      have he : page ≠ [] := fun e => hA ⟨h3 ▸ by decide, rfl, .inr e⟩
      refine wa (J := [.list []]) (z := (.bool true, .yes true)) d rfl ?_
      have d' := d.app (J := [.list []])
      have hi' : qw (μ ++ [.list []]) (.loc N) = none := jg d'.nl
      exact ql [fV (yo (μ := μ) k4), fG (KH (tl := tl) (P := P) (g := false)), fV (xE (μ := μ) k33), fG (HL (tl := tl) (P := P) (g := false)), .d, fV (V4 (t := false) hm hE (by induction page using PD with | nil => exact absurd rfl he | cons a l => rfl)), fV ((XG k2 k4' : qY U8 (PV.int ↑(St.kind x)) (PV.tup [PV.int 2, PV.int 4]) (μ ++ [q8.list []]) = some (Rs (PV.bool true), μ ++ [q8.list []]))), fI (hi'), fL (je d'.nl), fV (jz (μ := μ ++ [q8.list []]) k3), fV (y2 (v := .bool true) d'.nl hL (.yes true))] (by kernel_rfl)
   ·rw [if_neg h3]
    have k3 : (x.kind : Int) ≠ 3 := fun e => h3 (T3 e)
    by_cases h8 : x.kind = 8
    ·rw [if_pos h8]
     have k8 : (x.kind : Int) = 8 := by rw [h8]; rfl
     have k4 : ¬ (x.kind : Int) < 4 := by rw [h8]; decide
     have kX : qi μ N (μ ++ [FT2] ++ [.list ((Rw page.length [false, true]).flatten.map .bool)]) := qi.trans qi.app qi.app (.inl rfl)
     have e : μ ++ [FT2] ++ [.list ((Rw page.length [false, true]).flatten.map .bool)] = μ ++ ([FT2] ++ [.list ((Rw page.length [false, true]).flatten.map .bool)]) := PH ..
     have ne : ∀ {a : Nat}, a < μ.length -> (μ ++ [FT2]).length ≠ a := fun ha => by rw [PB]; exact RZ (PZ ha (Rd ..))
     obtain ⟨a, b', q⟩ := d.bk
     refine wa (J := [FT2] ++ [.list ((Rw page.length [false, true]).flatten.map .bool)]) (z := (.loc (μ ++ [FT2]).length, .lst (Rw page.length [false, true]).flatten)) d ⟨_, rfl, ne (Wq q.d), ne (yZ d.nl), by rw [<- e]; exact q6⟩ ?_
     have d' := d.app (J := [FT2] ++ [.list ((Rw page.length [false, true]).flatten.map .bool)])
     rw [<- e] at d' ⊢
     have hln := IV (qc (J := [FT2]) hm)
     rw [PJ] at hln
     exact ql [fV (xE (μ := μ) k4), fV ((XG k2 k4' : qY U8 (PV.int ↑(St.kind x)) (PV.tup [PV.int 2, PV.int 4]) μ = some (Rs (PV.bool true), μ))), fI (hi), fL (hl), fV (qE (μ := μ) k3), fV (jz (μ := μ) k8), fG (HL (tl := tl) (P := P) (g := g)), fV (hln), fV (Mx (μ := μ) hpl), fV (y2 (v := .loc (μ ++ [FT2]).length) d'.nl hL (.lst (Rw page.length [false, true]).flatten))] (by kernel_rfl)
    ·rw [if_neg h8]
     have k8 : (x.kind : Int) ≠ 8 := fun e => h8 (T3 e)
     refine wa (J := []) (z := (.none, .no)) d rfl ?_
     rw [PS]
     by_cases k : x.kind < 4
     ·have k4 : (x.kind : Int) < 4 := SZ.mpr k
      have hgt : g = true := by induction g with
       | true => rfl
       | false => exact absurd ⟨k, rfl, .inl (by lia)⟩ hA
      subst hgt
      exact ql [fV (yo (μ := μ) k4), fG (KH (tl := tl) (P := P) (g := true)), fV ((XG k2 k4' : qY U8 (PV.int ↑(St.kind x)) (PV.tup [PV.int 2, PV.int 4]) μ = some (Rs (PV.bool true), μ))), fI (hi), fL (hl), fV (qE (μ := μ) k3), fV (qE (μ := μ) k8), fV (y2 (v := .none) d.nl hL .no)] (by kernel_rfl)
     ·have k4 : ¬ (x.kind : Int) < 4 := fun e => k (SZ.mp e)
      exact ql [fV (xE (μ := μ) k4), fV ((XG k2 k4' : qY U8 (PV.int ↑(St.kind x)) (PV.tup [PV.int 2, PV.int 4]) μ = some (Rs (PV.bool true), μ))), fI (hi), fL (hl), fV (qE (μ := μ) k3), fV (qE (μ := μ) k8), fV (y2 (v := .none) d.nl hL .no)] (by kernel_rfl)
end
section
variable {n D N P Sx m k V X F Th A E Q : Nat} {p v : PV} {q kd : Int} {μ μ0 ν J : q4} {s nm : Str} {x : St} {es pa pb page new fresh thin : Loc} {zs : ZL} {tl : Loc} {c : Nat} {b t g : Bool} {l : List PV} {dl : Loc}
theorem HU (h : q5 μ m = some (es.map qB)) (ht : es.isEmpty = false) : tru (.loc m) μ = some (.ok true, μ) := by
 show ((q5 μ m).map _).map _ = _
 rw [h]
 induction es using PD with
 | nil => exact nomatch ht
 | cons a l => rfl
theorem L3 (h : q5 μ m = some (es.map qB)) (ht : es.isEmpty = true) : tru (.loc m) μ = some (.ok false, μ) := by
 show ((q5 μ m).map _).map _ = _
 rw [h]
 induction es using PD with
 | nil => rfl
 | cons a l => exact nomatch ht
noncomputable abbrev pfC (page fresh : Loc) : q8 := pl (page ++ fresh)
noncomputable abbrev M1' (μ : q4) (page fresh : Loc) : q4 := μ ++ [pfC page fresh]
noncomputable abbrev M2' (μ : q4) (page fresh : Loc) : q4 := M1' μ page fresh ++ [pfC page fresh]
noncomputable abbrev M3' (μ : q4) (page fresh : Loc) : q4 := M2' μ page fresh ++ [.list []]
noncomputable abbrev L10 (A B F Q E P Th : Nat) : List PV := [.loc A, .loc B, .loc F, .loc Q, .loc E, .loc P, .loc Th, .loc Th, .loc P, .loc P]
noncomputable abbrev LL (μ : q4) (page fresh : Loc) (F Q P Th : Nat) : List PV := L10 μ.length (M1' μ page fresh).length F Q (M2' μ page fresh).length P Th
theorem Wp (h : l[k]? = some v) : za (.loc μ.length) (.int (k : Int)) (μ ++ [.list l]) = some (.ok v, μ ++ [.list l]) := by
 show (q5 (μ ++ [.list l]) μ.length).bind _ = _
 rw [q6, PL, if_pos (UI k)]
 show (l[k]?).map _ = _
 rw [h]; rfl
theorem Gm (h1 : q5 μ P = some (page.map qB)) (h2 : q5 μ F = some (fresh.map qB)) (hl : page.length <= 1000) (hf : fresh.length <= 1000) : kK .Add (.loc P) (.loc F) μ = some (.ok (.loc μ.length), M1' μ page fresh) := by
 rw [wf h1 h2 (by rw [PB, PJ, PJ]; exact Pq (RP hl hf) (by decide)), <- Rt]
structure V5 (μ : q4) (N k : Nat) (l : List PV) (new : Loc) (V : Nat) : Prop where
 i : l[k]? = some (.loc V)
 n : V ≠ N
 p : q5 μ V = some (new.map qB)
theorem v5 (hk : k < 10) (hN : N < μ.length) (hp : q5 μ P = some (page.map qB)) (hf : q5 μ F = some (fresh.map qB)) (ht : q5 μ Th = some (thin.map qB)) (nP : P ≠ N) (nF : F ≠ N) (nT : Th ≠ N) (hQ : Q = if page = [] then F else P) :
 ∃ V, V5 (M3' μ page fresh ++ [.list (LL μ page fresh F Q P Th)]) N k (LL μ page fresh F Q P Th) (kM k page fresh thin) V := by
 have lt : ∀ {J : q4}, (μ ++ J).length ≠ N := fun {J} => by rw [PB]; exact RZ (PZ hN (Rd ..))
 have ap : ∀ {a : Nat} {l : List PV}, q5 μ a = some l -> q5 (M3' μ page fresh ++ [.list (LL μ page fresh F Q P Th)]) a = some l := fun h => qc (qc (qc (qc h)))
 match k, hk with
 | 0, _ => exact ⟨μ.length, rfl, RZ hN, qc (qc (qc q6))⟩
 | 1, _ => exact ⟨(M1' μ page fresh).length, rfl, lt, qc (qc q6)⟩
 | 2, _ => exact ⟨F, rfl, nF, ap hf⟩
 | 3, _ =>
   show ∃ V, V5 _ N 3 _ (if page = [] then fresh else page) V
   by_cases h : page = []
   ·rw [if_pos h] at hQ ⊢; exact ⟨F, by rw [hQ]; rfl, nF, ap hf⟩
   ·rw [if_neg h] at hQ ⊢; exact ⟨P, by rw [hQ]; rfl, nP, ap hp⟩
 | 4, _ => exact ⟨(M2' μ page fresh).length, rfl, by rw [show M2' μ page fresh = μ ++ ([pfC page fresh] ++ [pfC page fresh]) from PH ..]; exact lt, qc q6⟩
 | 5, _ => exact ⟨P, rfl, nP, ap hp⟩
 | 6, _ => exact ⟨Th, rfl, nT, ap ht⟩
 | 7, _ => exact ⟨Th, rfl, nT, ap ht⟩
 | 8, _ => exact ⟨P, rfl, nP, ap hp⟩
 | 9, _ => exact ⟨P, rfl, nP, ap hp⟩
theorem OY (d : zM μ0 μ D N pa pb zs) (hnm : Pt x.name = AB \/ Pt x.name = XM) (hl : (Pt x.name).length <= Pr) (hp : q5 μ P = some (page.map qB)) (hf : q5 μ F = some (fresh.map qB)) (ht : q5 μ Th = some (thin.map qB)) (nP : P ≠ N) (nF : F ≠ N) (nT : Th ≠ N) (hpl : page.length <= 1000) (hfl : fresh.length <= 1000) (hk : x.kind < 10) :
 ∃ ν, JJ n 5 Sx N D x (u4 tl P g F Th) μ = some (.ok .next, zT Sx N D (some (x, u4 tl P g F Th)), ν) /\ zM μ0 ν D N (if Pt x.name = AB then kM x.kind page fresh thin else pa) (if Pt x.name = AB then pb else kM x.kind page fresh thin) zs := by
 have l1 : Sg ("page" : Str) (u4 tl P g F Th) = some (.loc P) := (jO (by decide)).trans ((jO (by decide)).trans ((jO (by decide)).trans zt))
 have l2 : Sg ("fresh" : Str) (u4 tl P g F Th) = some (.loc F) := (jO (by decide)).trans zt
 have l3 : Sg ("thin" : Str) (u4 tl P g F Th) = some (.loc Th) := zt
 have a1 := Gm hp hf hpl hfl
 have a2 := Gm (qc (J := [pfC page fresh]) hp) (qc hf) hpl hfl
 have h1 : ∀ ν, j0 (.str x.name) "lower" [] ν = some (.ok (.str (Pt x.name)), ν) := fun ν => zq hl
 have d4 : ∀ Q, zM μ0 (M3' μ page fresh ++ [.list (LL μ page fresh F Q P Th)]) D N pa pb zs := fun Q => d.app.app.app.app
 have hid : ∀ Q, qw (M3' μ page fresh ++ [.list (LL μ page fresh F Q P Th)]) (.loc D) = none := fun Q => by
  obtain ⟨_, _, q⟩ := (d4 Q).bk
  exact Hz q.d
 induction he : page.isEmpty with
 | true =>
   have tr := L3 (qc (J := [pfC page fresh]) (qc (J := [pfC page fresh]) hp)) he
   obtain ⟨V, v⟩ := v5 (Q := F) hk (yZ d.nl) hp hf ht nP nF nT (if_pos (Rf.mp he)).symm
   obtain ⟨ν, hs, dν⟩ := (d4 F).store hnm v.p v.n
   refine ⟨ν, ?_, dν⟩
   exact ql [fG (l1), fG (l2), fV (a1), fG (l1), fG (l2), fV (a2), fG (l2), fG (l1), fT (tr), fG (l2), fG (l1), fG (l3), fG (l3), fG (l1), fG (l1), .d, fV (Wp (μ := M3' μ page fresh) v.i), fV (h1 (M3' μ page fresh ++ [.list (LL μ page fresh F F P Th)])), fI (hid F), fV (hs)] (by kernel_rfl)
 | false =>
   have tr := HU (qc (J := [pfC page fresh]) (qc (J := [pfC page fresh]) hp)) he
   obtain ⟨V, v⟩ := v5 (Q := P) hk (yZ d.nl) hp hf ht nP nF nT (if_neg fun e => by rw [e] at he; exact nomatch he).symm
   obtain ⟨ν, hs, dν⟩ := (d4 P).store hnm v.p v.n
   refine ⟨ν, ?_, dν⟩
   exact ql [fG (l1), fG (l2), fV (a1), fG (l1), fG (l2), fV (a2), fG (l2), fG (l1), fT (tr), fG (l1), fG (l3), fG (l3), fG (l1), fG (l1), .d, fV (Wp (μ := M3' μ page fresh) v.i), fV (h1 (M3' μ page fresh ++ [.list (LL μ page fresh F P P Th)])), fI (hid P), fV (hs)] (by kernel_rfl)
end
section
variable {n D N P Sx i : Nat} {v : PV} {μ μ0 ν J : q4} {x s : St} {pa pb page : Loc} {zs : ZL} {tl : Loc} {σ : LE}
theorem xR {μ' : q4} {t t' : Loc} (h : JJ n i Sx N D x t μ = some (.ok .next, zT Sx N D (some (x, t')), μ')) : (evN ftT (n + 100)).ex (zT Sx N D (some (x, t))) (YK.drop i) μ = (evN ftT (n + 100)).ex (zT Sx N D (some (x, t'))) (YK.drop (i + 1)) μ' := by
 have q := BJ (n := n + 99) 1 h
 rwa [List.drop_drop] at q
structure TF (x : St) (pa pb : Loc) (ns : List jG) : Prop where
 f : StF x
 nm : Pt x.name = AB \/ Pt x.name = XM
 k : x.kind < 10
 e : ∀ e ∈ qv pa pb (Pt x.name), EOK e /\ TL1 e.2
 z : ns.length <= 1000
 l : (qv pa pb (Pt x.name)).length <= 1000
noncomputable abbrev nwA (x : St) (pa pb : Loc) : Loc := if Pt x.name = AB then zm x (qv pa pb (Pt x.name)) else pa
noncomputable abbrev nwB (x : St) (pa pb : Loc) : Loc := if Pt x.name = AB then pb else zm x (qv pa pb (Pt x.name))
theorem VT : (qO x).length <= 1000 := by
 unfold qO
 split
 ·exact (by decide : 1 <= 1000)
 ·exact Rj _
theorem Cn (d : zM μ0 μ D N pa pb zs) (h : TF x pa pb (zs.map Rh)) :
 ∃ ν zs' t', (evN ftT (n + 100)).ex (zT Sx N D (some (x, tl))) YK μ = some (.ok .next, zT Sx N D (some (x, t')), ν) /\ zM μ0 ν D N (nwA x pa pb) (nwB x pa pb) zs' /\ zs'.map Rh = zs.map Rh ++ xG x (qv pa pb (Pt x.name)) := by
 have hl : (Pt x.name).length <= Pr := h.nm.elim (fun e => by rw [e]; decide +kernel) fun e => by rw [e]; decide +kernel
 have hz : zs.length <= 1000 := by have q := h.z; rwa [PJ] at q
 obtain ⟨P, p⟩ := d.pg h.nm
 have s0 := xR (n := n) (Sx := Sx) (t := tl) (OE hl p)
 have s1 := xR (n := n) (Sx := Sx) (N := N) (D := D) (t := u1 tl P) (μ := μ) (Oz h.f.w.o (Pq h.f.w.l (by decide)))
 have d1 := d.app (J := [ls (Z4 x.text)]) |>.app (J := [.list []])
 have m1 := qc (J := [.list []]) (qc (J := [ls (Z4 x.text)]) p.l)
 obtain ⟨ν2, zs', e2, d2, k2, hz'⟩ := Op (n := n) (Sx := Sx) (tl := tl) d1 m1 (fun e he => (h.e e he).1) hz h.l rfl
 have m2 := k2.list m1 p.n
 obtain ⟨J3, e3⟩ := OD (n := n) (Sx := Sx) (N := N) (D := D) (tl := tl) (P := P) (μ := ν2) h.f rfl
 obtain ⟨J4, e4⟩ := OA (n := n) (Sx := Sx) (N := N) (D := D) (tl := tl) (x := x) (F := (ν2 ++ J3).length) (g := gd x.text) (qc (J := [.list ((qO x).map qB)]) (qc (J := J3) m2)) (Pq h.l (by decide)) fun e he => (h.e e he).2
 have lt2 := yZ d2.nl
 have lt3 : N < (ν2 ++ J3).length := by rw [PB]; exact PZ lt2 (Rd ..)
 have lt4 : N < (ν2 ++ J3 ++ [pl (qO x)] ++ J4).length := by rw [PB, PB]; exact PZ lt3 (Pq (Rd ..) (Rd ..))
 obtain ⟨ν, e5, d5⟩ := OY (n := n) (Sx := Sx) (tl := tl) (g := gd x.text) (d2.app (J := J3) |>.app (J := [pl (qO x)]) |>.app (J := J4) |>.app (J := [pl (xJ x (qv pa pb (Pt x.name)))])) h.nm hl (qc (qc (qc (qc m2)))) (qc (qc q6)) q6 p.n (RZ lt3) (RZ lt4) h.l VT h.k
 refine ⟨ν, zs', u4 tl P (gd x.text) (ν2 ++ J3).length (ν2 ++ J3 ++ [pl (qO x)] ++ J4).length, ?_, d5, hz'⟩
 exact s0.trans (s1.trans ((xR e2).trans ((xR e3).trans ((xR e4).trans ((xR e5).trans (by kernel_rfl))))))
structure KN where
 o : Option (St × Loc)
 zs : ZL
 μ : q4
structure Pi (G : Nat -> Loc -> Loc -> List jG -> Prop) (μ0 : q4) (D N i : Nat) (a : KN) (pa pb : Loc) : Prop where
 g : G i pa pb (a.zs.map Rh)
 d : zM μ0 a.μ D N pa pb a.zs
def CV (G : Nat -> Loc -> Loc -> List jG -> Prop) (μ0 : q4) (D N i : Nat) (a : KN) : Prop := ∃ pa pb, Pi G μ0 D N i a pa pb
noncomputable def tO : Option (St × Loc) -> Loc
 | none => []
 | some q => q.2
theorem Lm {o : Option (St × Loc)} : qu (zT Sx N D o) (y5 (qo 240).body) s.pv = some (zT Sx N D (some (s, tO o))) := by induction o <;> kernel_rfl
def g9 (steps : List St) (G : Nat -> Loc -> Loc -> List jG -> Prop) : Prop := ∀ i (hi : i < steps.length) pa pb ns, G i pa pb ns -> TF steps[i] pa pb ns /\ G (i + 1) (nwA steps[i] pa pb) (nwB steps[i] pa pb) (ns ++ xG steps[i] (qv pa pb (Pt steps[i].name)))
theorem E1 {G : Nat -> Loc -> Loc -> List jG -> Prop} {steps : List St} {a : KN} (hS : q5 μ0 Sx = some (steps.map St.pv)) (hstep : g9 steps G) (h : CV G μ0 D N 0 a) :
 ∃ b, zQ (evN ftT (n + 100)) (.list Sx) (y5 (qo 240).body) YK (steps.length + 1) 0 (zT Sx N D a.o) a.μ = some (.ok .next, zT Sx N D b.o, b.μ) /\ CV G μ0 D N steps.length b := by
 refine xu (N := steps.length) (S := fun a : KN => zT Sx N D a.o) (M := fun a => a.μ) (P := CV G μ0 D N) (Q := fun R => ∃ b : KN, R = some (.ok .next, zT Sx N D b.o, b.μ) /\ CV G μ0 D N steps.length b) (fun i a hi h => ?_) (fun b h => ⟨?_, b, rfl, h⟩) h
 ·obtain ⟨pa, pb, h⟩ := h
  obtain ⟨f, g⟩ := hstep i hi pa pb _ h.g
  obtain ⟨ν, zs', t', e, d, hz⟩ := Cn (n := n) (Sx := Sx) (tl := tO a.o) h.d f
  refine ⟨steps[i].pv, _, ?_, Lm, .inl ⟨.next, ⟨some (steps[i], t'), zs', ν⟩, .inl rfl, e, _, _, hz ▸ g, d⟩⟩
  rw [qG (h.d.ext.list hS), PY hi]; rfl
 ·obtain ⟨pa, pb, h⟩ := h
  rw [qG (h.d.ext.list hS), RC (PK _)]; rfl
noncomputable abbrev dA (μ : q4) : Nat := (μ ++ [q8.dict []]).length
noncomputable abbrev dB (μ : q4) : Nat := (μ ++ [q8.dict []] ++ [q8.list []]).length
noncomputable abbrev dL (μ : q4) : Loc := [(AB, .loc (dA μ)), (XM, .loc (dB μ))]
noncomputable abbrev D0 (μ : q4) : q4 := μ ++ [.dict (dL μ)] ++ [.list []] ++ [.list []]
theorem O6 : (if ((dL μ).map (·.1)).Nodup /\ (qe (μ ++ [.dict []] ++ [.list []] ++ [.list []]) μ.length).any (·.isEmpty) = true then some (.ok (.loc μ.length), qj (μ ++ [.dict []] ++ [.list []] ++ [.list []]) μ.length (.dict (dL μ))) else none : PR PV) = some (.ok (.loc μ.length), D0 μ) := by
 have lt : μ.length < (μ ++ [q8.dict []]).length := by rw [PB]; exact RU _
 have e : qe (μ ++ [.dict []] ++ [.list []] ++ [.list []]) μ.length = some [] := kG (kG (D := μ.length) (μ := μ ++ [.dict []]) (dl := []) (by unfold qe; rw [ge]; rfl) (jN lt)) (jN (by rw [PB]; exact PZ lt (Rd ..)))
 rw [if_pos ⟨(show [AB, XM].Nodup by decide +kernel), by rw [e]; rfl⟩, yC (by rw [PB]; exact PZ lt (Rd ..)), yC lt, wo]
theorem Cy {G : Nat -> Loc -> Loc -> List jG -> Prop} {steps : List St} (hS : q5 μ Sx = some (steps.map St.pv)) (hG : G 0 [] [] []) (hstep : g9 steps G) :
 ∃ ν N pa pb zs, (evN ftT (n + 102)).call 240 [.loc Sx] [] μ = some (.ok (.tup [.loc μ.length, .loc N]), ν) /\ zM μ ν μ.length N pa pb zs /\ G steps.length pa pb (zs.map Rh) := by
 have e : D0 μ ++ [.list []] = μ ++ ([.dict (dL μ)] ++ [.list []] ++ [.list []] ++ [.list []]) := by rw [PH, PH, PH, PH, PH]
 have hlen : (D0 μ).length = μ.length + 3 := by rw [PB, PB, PB]; rfl
 have la : dA μ = μ.length + 1 := PB
 have lb : dB μ = μ.length + 2 := by unfold dB; rw [PB, PB]; rfl
 have lt : μ.length < (μ ++ [q8.dict (dL μ)]).length := by rw [PB]; exact RU _
 have d0 : zM μ (D0 μ ++ [.list []]) μ.length (D0 μ).length [] [] [] := {
  ext := ⟨by rw [e, PB]; exact Rd .., fun a ha => by rw [e]; exact jN ha⟩
  hD := PK _
  hN := by rw [hlen]; exact Rd ..
  nn := by rw [hlen]; exact RZ (U7 (by decide))
  nl := q6
  reps := fun zz h => nomatch h
  bk := ⟨dA μ, dB μ, {
   d := kG (kG (kG (μ := μ ++ [.dict (dL μ)]) (by unfold qe; rw [ge]; rfl) (jN lt)) (jN (by rw [PB]; exact PZ lt (Rd ..)))) (jN (by rw [hlen]; exact U7 (by decide)))
   na := by rw [la, hlen]; lia
   nb := by rw [lb, hlen]; lia
   la := qc (qc (by rw [la, show μ.length + 1 = (μ ++ [q8.dict (dL μ)]).length by rw [PB]; rfl]; exact q6))
   lb := qc (by rw [lb, show μ.length + 2 = (μ ++ [q8.dict (dL μ)] ++ [q8.list []]).length by rw [PB, PB]; rfl]; exact q6) }⟩ }
 obtain ⟨b, hl, pa, pb, g⟩ := E1 (n := n) (a := ⟨none, [], D0 μ ++ [.list []]⟩) hS hstep ⟨_, _, hG, d0⟩
 have hs := qK (d0.ext.list hS)
 rw [PJ] at hs
 refine ⟨b.μ, (D0 μ).length, pa, pb, b.zs, ?_, g.d, g.g⟩
 exact jv (n := n) (k := 101) [.d, .d, fV (O6 (μ := μ)), fR (hs), fS (hl)] (by kernel_rfl)
end
theorem Vr {α : Type} {r : Ev} {src : Src} {l : List α} {target elt : Expr} {ifs : List Expr} {μ : q4} {Inv : LE -> Prop} {f : α -> PV} {g : α -> Bool} (V : α -> PV) (hn : ∀ i J, xo src i (μ ++ J) = some ((l[i]?).map V))
 (h : ∀ σ v J, Inv σ -> v ∈ l -> ∃ σ' J1, qu σ target (V v) = some σ' /\ Inv σ' /\ zW r σ' ifs (μ ++ J) = some (.ok (g v), μ ++ (J ++ J1)) /\ (g v = true -> ∃ J2, r.ev σ' elt (μ ++ (J ++ J1)) = some (.ok (f v), μ ++ (J ++ J1 ++ J2)))) (k : Nat) :
 ∀ (i : Nat) (σ : LE) (J : q4), Inv σ -> k + i = l.length + 1 -> i <= l.length -> ∃ J', zV r src target ifs elt k i σ (μ ++ J) = some (.ok (((l.drop i).filter g).map f), μ ++ (J ++ J')) := by
 induction k with
 | zero => intro i σ J _ h1 h2; exact absurd h2 (by lia)
 | succ k ih =>
   intro i σ J hI h1 h2
   unfold zV
   rw [hn]
   by_cases hi : i < l.length
   ·obtain ⟨σ', J1, a1, a2, a3, a4⟩ := h σ l[i] J hI (Rx hi)
    rw [PY hi, S9 hi, filter_cons]
    show ∃ J', (qu σ target (V l[i])).bind _ = _
    rw [a1]
    show ∃ J', qa (zW r σ' ifs (μ ++ J)) _ = _
    rw [a3]
    by_cases hg : g l[i] = true
    ·obtain ⟨J2, a4⟩ := a4 hg
     obtain ⟨J3, b⟩ := ih (i + 1) σ' (J ++ J1 ++ J2) a2 (by lia) hi
     refine ⟨J1 ++ (J2 ++ J3), ?_⟩
     rw [if_pos hg]
     show (if g l[i] = true then _ else _) = _
     rw [if_pos hg, a4]
     show qa (zV r src target ifs elt k (i + 1) σ' (μ ++ (J ++ J1 ++ J2))) _ = _
     rw [b, PH (J ++ J1), PH J]; rfl
    ·obtain ⟨J3, b⟩ := ih (i + 1) σ' (J ++ J1) a2 (by lia) hi
     refine ⟨J1 ++ J3, ?_⟩
     rw [if_neg hg]
     show (if g l[i] = true then _ else _) = _
     rw [if_neg hg, b, PH J]
   ·have e : i = l.length := by lia
    subst e
    rw [RC (PK _), TE]
    exact ⟨[], by rw [PS]; rfl⟩
noncomputable def YO (p : PV) : Bool := !(zB p)
noncomputable def vK (page : Loc) (k : Str) : List PV := (page.filter fun e => e.1 == k).map (·.2)
noncomputable def z0 (page : Loc) : List PV := (page.map (·.2)).filter YO
noncomputable def kAt (page : Loc) (i : Nat) : Str := (page.map (·.1)).getD i PF
noncomputable def gAt (page : Loc) (i : Nat) : Bool := !((page.map (·.1)).take i).contains (kAt page i)
noncomputable def kC (page : Loc) (i : Nat) : Str × PV := (kAt page i, (vK page (kAt page i)).getLast?.getD .none)
noncomputable def qJ (page : Loc) : Loc := ((UM page.length).filter (gAt page)).map (kC page)
section
variable {n P K O m i : Nat} {k : Str} {v : PV} {μ ν J : q4} {es page : Loc} {l : List Str} {ps : List PV} {t : Bool} {e : Str × PV}
theorem YF (h : ∀ p ∈ ps, TOK p) : jj (jK μ 7) ps = some (ps.map zg) := by
 induction ps with
 | nil => rfl
 | cons p ps ih =>
   have e : jK μ 7 p = some (zg p) := (h p (.head _)).elim (C := fun p => jK μ 7 p = some (zg p)) rfl rfl fun zz zz => rfl
   show (jK μ 7 p).bind (fun d => (jj (jK μ 7) ps).map fun ds => d :: ds) = _
   rw [e, ih fun x hx => h x (.tail _ hx)]; rfl
theorem Kh (h : ∀ p ∈ ps, TOK p) : RD (ps.map zg) = true /\ Rz (ps.map zg) = 0 := by
 induction ps with
 | nil => exact ⟨rfl, rfl⟩
 | cons p ps ih =>
   have i := ih fun y hy => h y (.tail _ hy)
   have q := ZR (h p (.head _))
   exact ⟨show ((zg p).canLay0 && RD (ps.map zg)) = true by rw [q.1, i.1]; rfl, show max (zg p).depth (Rz (ps.map zg)) = 0 by rw [q.2, i.2]; rfl⟩
theorem X9 (hm : q5 μ m = some ps) (h : ∀ p ∈ ps, TOK p) : jd μ (.loc m) = some (.list (ps.map zg)) := by
 show (((q5 μ m).bind fun l => (jj (jK μ 7) l).map SV).bind _) = _
 rw [hm]
 show (((jj (jK μ 7) ps).map SV).bind _) = _
 rw [YF h]
 have i := Kh h
 refine if_pos ?_
 show (RD (ps.map zg) && decide (Rz (ps.map zg) + 1 <= 64)) = true
 rw [i.1, i.2]; rfl
theorem Vl (hm : q5 μ m = some ps) (h : ∀ p ∈ ps, TOK p) (ht : ps.isEmpty = t) : qY .Eq (.loc m) (.loc μ.length) (μ ++ [.list []]) = some (.ok (.bool t), μ ++ [.list []]) := by
 have e : jd (μ ++ [.list []]) (.loc μ.length) = some (.list []) := jc (l := []) q6 (fun zz q => nomatch q)
 show (peq _ _ _).map _ = _
 unfold peq
 rw [X9 (qc hm) h, e, <- ht]
 induction ps <;> rfl
theorem Bp : (l.map Ao).any (fun y => Sn y (.str k)) = l.contains k := by
 induction l with
 | nil => rfl
 | cons x l ih =>
   rw [RO, TS, ih, List.contains_cons, show Sn (.str x) (.str k) = (x == k) from rfl]
   by_cases h : x = k
   ·rw [h]
   ·rw [beq_eq_false_iff_ne.mpr h, beq_eq_false_iff_ne.mpr (SO h)]
theorem Gj (ha : q5 μ m = some (l.map .str)) (h : ∀ y ∈ l, Pz y = true) (hk : Pz k = true) : qY .NotIn (.str k) (.loc m) μ = some (.ok (.bool (!(l.contains k))), μ) := by
 refine (show qY .NotIn (.str k) (.loc m) μ = (pin μ (.str k) (.loc m)).map (fun r => (Rs (PV.bool (!r)), μ)) from rfl).trans ?_
 unfold pin
 rw [zF hk, PL, jc ha h, <- Bp]; rfl
theorem VV (h : q5 ν K = some (l.map .str)) (hl : l.length <= 100000) (hi : i <= l.length) : wM (.loc K) none (some (.int (i : Int))) ν = some (.ok (.loc ν.length), ν ++ [ls (l.take i)]) := by
 show (q5 ν K).bind _ = _
 rw [h, PL, if_pos (by rw [PJ]; exact Pq hl (by decide))]
 rw [Zb (h := i) (by rw [if_neg (by lia), Ue, PJ]; lia) (by rw [PJ]; exact hi), <- List.map_take]
 exact ji (by rw [PJ, T9]; exact Pq (bE ..) (Pq hl (by decide)))
theorem MN (h : q5 μ m = some ps) (hv : ps.getLast? = some v) : za (.loc m) (.int (-1)) μ = some (.ok v, μ) := by
 show (q5 μ m).bind _ = _
 rw [h, PL, if_neg (by decide), if_pos rfl, hv]; rfl
noncomputable abbrev IK : List Sf := (qo 245).body
noncomputable abbrev yn : Expr := sE IK 0 0 []
noncomputable abbrev yK : Expr := sE IK 1 0 []
noncomputable abbrev xY : Expr := sE IK 2 0 []
noncomputable abbrev yr : Expr := eAt (lcE xY) [1, 0]
noncomputable abbrev Zl (P : Nat) (t : Loc) : LE := ⟨qm 245, ("page", .loc P) :: t⟩
noncomputable def k2 (a b : Str) : Option (Str × PV) -> Loc
 | none => []
 | some e => [(a, .str e.1), (b, e.2)]
noncomputable abbrev Ca5 (o : Option (Str × PV)) : LE := ⟨(LE.comp (Zl 0 []) (lcN yn)).sc, k2 "key" "text" o⟩
noncomputable abbrev Cb5 (o : Option (Str × PV)) : LE := ⟨(LE.comp (Zl 0 []) (lcN yK)).sc, k2 "key" "text" o⟩
noncomputable def n2 : Option (Nat × Str) -> Loc
 | none => []
 | some q => [("n", .int q.1), ("key", .str q.2)]
noncomputable abbrev Cd5 (P K : Nat) (o : Option (Nat × Str)) : LE := ⟨(LE.comp (Zl 0 [("odd", .loc 0), ("keys", .loc 0)]) (lcN xY)).sc, ("page", .loc P) :: ("keys", .loc K) :: n2 o⟩
noncomputable abbrev Cc5 (k : Str) (o : Option (Str × PV)) : LE := ⟨(LE.comp (Cd5 0 0 none) (lcN yr)).sc, ("key", .str k) :: k2 "one" "text" o⟩
theorem NO {o : Option (Str × PV)} : qu (Ca5 o) (qt yn) (qB e) = some (Ca5 (some e)) := by induction o <;> kernel_rfl
theorem N0 {o : Option (Str × PV)} : qu (Cb5 o) (qt yK) (qB e) = some (Cb5 (some e)) := by induction o <;> kernel_rfl
theorem MG {o : Option (Str × PV)} : qu (Cc5 k o) (qt yr) (qB e) = some (Cc5 k (some e)) := by induction o <;> kernel_rfl
theorem NW {o : Option (Nat × Str)} : qu (Cd5 P K o) (qt xY) (.tup [.int i, .str k]) = some (Cd5 P K (some (i, k))) := by induction o <;> kernel_rfl
theorem Om : (evN ftT (n + 8)).ev (Ca5 (some e)) (lcE yn) μ = some (.ok e.2, μ) := by
 exact xO [] (by kernel_rfl)
theorem P5 (h : TOK e.2) : zW (evN ftT (n + 8)) (Ca5 (some e)) (qD yn) μ = some (.ok (YO e.2), μ) := by
 obtain ⟨x, p⟩ := e
 rcases h with h | h | ⟨s, h, hs⟩
 ·rw [show p = .none from h]
  exact Qh [] (by kernel_rfl)
 ·rw [show p = .int 0 from h]
  exact Qh [] (by kernel_rfl)
 ·rw [show p = .str s from h]
  exact Qh [.d, .d, fV (Qf (μ := μ) (b := 0) hs)] (by kernel_rfl)
theorem Nr : (evN ftT (n + 8)).ev (Cb5 (some e)) (lcE yK) μ = some (.ok (.str e.1), μ) := by
 exact xO [] (by kernel_rfl)
theorem Ni : (evN ftT (n + 8)).ev (Cc5 k (some e)) (lcE yr) μ = some (.ok e.2, μ) := by
 exact xO [] (by kernel_rfl)
theorem Pm (h : Pz e.1 = true) (hk : Pz k = true) : zW (evN ftT (n + 8)) (Cc5 k (some e)) (qD yr) μ = some (.ok (e.1 == k), μ) := by
 have q := w6 (μ := μ) h hk rfl
 exact Qh [fV (q), fT (jF (t := RN e == k) (μ := μ))] (by kernel_rfl)
end
section
variable {n P K O m i : Nat} {k : Str} {v : PV} {μ ν J : q4} {es page : Loc} {l : List Str} {ps : List PV} {t : Bool} {e : Str × PV} {tl : Loc}
theorem LB (hm : q5 μ m = some (es.map qB)) (hr : es.length <= Pr) (hE : ∀ e ∈ es, EOK e) :
 qF (evN ftT (n + 8)) (LE.comp (Zl P []) (lcN yn)) (lcE yn) (qt yn) (qD yn) (.list m, es.length + 1) μ = some (.ok (.loc μ.length), μ ++ [.list (z0 es)]) := by
 have q := qU (r := evN ftT (n + 8)) (target := qt yn) (elt := lcE yn) (ifs := qD yn) (μ := μ) (f := fun e : Str × PV => e.2) (g := fun e => YO e.2) (Inv := fun σ => ∃ o, σ = Ca5 o) qB (qG hm)
  (fun σ e ⟨o, ho⟩ hk => ⟨_, ho ▸ NO, ⟨_, rfl⟩, P5 (hE e hk).2, fun zz => Om⟩) (es.length + 1) 0 (LE.comp (Zl P []) (lcN yn)) ⟨none, by kernel_rfl⟩ rfl (Rj _)
 refine (qA q ?_).trans ?_
 ·rw [PJ]; exact Pq (RY _ _) hr
 ·unfold z0; rw [bP]; rfl
theorem Iv (hm : q5 μ m = some (es.map qB)) (hr : es.length <= Pr) :
 qF (evN ftT (n + 8)) (LE.comp (Zl P [("odd", .loc O)]) (lcN yK)) (lcE yK) (qt yK) (qD yK) (.list m, es.length + 1) μ = some (.ok (.loc μ.length), μ ++ [ls (es.map (·.1))]) := by
 have q := qU (r := evN ftT (n + 8)) (target := qt yK) (elt := lcE yK) (ifs := qD yK) (μ := μ) (f := fun e : Str × PV => .str e.1) (g := fun zz => true) (Inv := fun σ => ∃ o, σ = Cb5 o) qB (qG hm)
  (fun σ e ⟨o, ho⟩ hk => ⟨_, ho ▸ N0, ⟨_, rfl⟩, by kernel_rfl, fun zz => Nr⟩) (es.length + 1) 0 (LE.comp (Zl P [("odd", .loc O)]) (lcN yK)) ⟨none, by kernel_rfl⟩ rfl (Rj _)
 rw [zy] at q
 refine (qA q ?_).trans ?_
 ·rw [PJ]; exact hr
 ·unfold ls; rw [Su]; rfl
theorem HB (hm : q5 μ m = some (es.map qB)) (hr : es.length <= Pr) (hE : ∀ e ∈ es, EOK e) (hk : Pz k = true) :
 qF (evN ftT (n + 8)) (LE.comp (Cd5 P K (some (i, k))) (lcN yr)) (lcE yr) (qt yr) (qD yr) (.list m, es.length + 1) μ = some (.ok (.loc μ.length), μ ++ [.list (vK es k)]) := by
 have q := qU (r := evN ftT (n + 8)) (target := qt yr) (elt := lcE yr) (ifs := qD yr) (μ := μ) (f := fun e : Str × PV => e.2) (g := fun e => e.1 == k) (Inv := fun σ => ∃ o, σ = Cc5 k o) qB (qG hm)
  (fun σ e ⟨o, ho⟩ he => ⟨_, ho ▸ MG, ⟨_, rfl⟩, Pm (hE e he).1 hk, fun zz => Ni⟩) (es.length + 1) 0 (LE.comp (Cd5 P K (some (i, k))) (lcN yr)) ⟨none, by kernel_rfl⟩ rfl (Rj _)
 refine (qA q ?_).trans ?_
 ·rw [PJ]; exact Pq (RY _ _) hr
 ·rfl
theorem gw (hi : i < page.length) : kAt page i = page[i].1 := by
 unfold kAt
 rw [S7, SW, PY hi]; rfl
theorem QH (hi : i < page.length) : (vK page (kAt page i)).getLast? = some ((vK page (kAt page i)).getLast?.getD .none) := by
 have hm : page[i].2 ∈ vK page (kAt page i) := Ri.mpr ⟨page[i], RM.mpr ⟨Rx hi, by rw [gw hi]; exact beq_self_eq_true _⟩, rfl⟩
 induction h : (vK page (kAt page i)).getLast? with
 | none => rw [List.getLast?_eq_none_iff.mp h] at hm; exact nomatch hm
 | some v => rfl
theorem Dh (hK : q5 μ K = some ((page.map (·.1)).map .str)) (i : Nat) (J : q4) : xo (.enum K) i (μ ++ J) = some (((UM page.length)[i]?).map fun i => .tup [.int i, .str (kAt page i)]) := by
 show (q5 (μ ++ J) K).map _ = _
 rw [qc hK]
 show some ((((page.map (·.1)).map PV.str)[i]?).map _) = _
 by_cases hi : i < page.length
 ·rw [SW, SW, PY hi, List.getElem?_range hi]
  show some (some (PV.tup [.int i, .str page[i].1])) = _
  rw [<- gw hi]; rfl
 ·rw [RC (by rw [PJ, PJ]; exact A8 hi), RC (by rw [Uf]; exact A8 hi)]; rfl
theorem C3 (hE : ∀ e ∈ page, EOK e) : ∀ y ∈ (page.map (·.1)).take i, Pz y = true := fun y hy => by
 obtain ⟨e, he, rfl⟩ := Ri.mp (List.mem_of_mem_take hy)
 exact (hE e he).1
theorem OU (hK : q5 μ K = some ((page.map (·.1)).map .str)) (hr : page.length <= 100000) (hi : i < page.length) (hE : ∀ e ∈ page, EOK e) :
 zW (evN ftT (n + 20)) (Cd5 P K (some (i, kAt page i))) (qD xY) μ = some (.ok (gAt page i), μ ++ [ls ((page.map (·.1)).take i)]) := by
 have h1 := VV (i := i) hK (by rw [PJ]; exact hr) (by rw [PJ]; exact Tf hi)
 have h2 := Gj (μ := μ ++ [ls ((page.map (·.1)).take i)]) (m := μ.length) (k := kAt page i) q6 (C3 hE) (by rw [gw hi]; exact (hE _ (Rx hi)).1)
 exact Qh [fV (h1), fV (h2), fT (jF (t := !List.contains (cq i (Rm (fun x => RN x) page)) (kAt page i)) (μ := μ ++ [ls (cq i (Rm (fun x => RN x) page))]))] (by kernel_rfl)
theorem No (hP : q5 μ P = some (page.map qB)) (hr : page.length <= Pr) (hi : i < page.length) (hE : ∀ e ∈ page, EOK e) :
 (evN ftT (n + 20)).ev (Cd5 P K (some (i, kAt page i))) (lcE xY) μ = some (.ok (qB (kC page i)), μ ++ [.list (vK page (kAt page i))]) := by
 have hc := fun n => HB (n := n) (P := P) (K := K) (i := i) (k := kAt page i) hP hr hE (by rw [gw hi]; exact (hE _ (Rx hi)).1)
 have hs := qK hP
 rw [PJ] at hs
 exact xO [fR (hs), fV (hc (n + 9)), fV (MN (μ := μ ++ [.list (vK page (kAt page i))]) q6 (QH hi))] (by kernel_rfl)
theorem I0 (hK : q5 μ K = some ((page.map (·.1)).map .str)) (hP : q5 μ P = some (page.map qB)) (hr : page.length <= 1000) (hE : ∀ e ∈ page, EOK e) :
 ∃ J, qF (evN ftT (n + 20)) (LE.comp (Zl P [("odd", .loc O), ("keys", .loc K)]) (lcN xY)) (lcE xY) (qt xY) (qD xY) (.enum K, page.length + 1) μ = some (.ok (.loc (μ ++ J).length), μ ++ J ++ [pl (qJ page)]) := by
 have hr2 : page.length <= Pr := Pq hr (by decide)
 obtain ⟨J, q⟩ := Vr (r := evN ftT (n + 20)) (target := qt xY) (elt := lcE xY) (ifs := qD xY) (μ := μ) (f := fun i => qB (kC page i)) (g := gAt page) (Inv := fun σ => ∃ o, σ = Cd5 P K o) (fun i => .tup [.int i, .str (kAt page i)]) (Dh hK)
  (fun σ i J ⟨o, ho⟩ hi => ⟨_, [ls ((page.map (·.1)).take i)], ho ▸ NW, ⟨_, rfl⟩, by rw [<- PH]; exact OU (qc hK) (Pq hr (by decide)) (Ug.mp hi) hE, fun zz => ⟨[.list (vK page (kAt page i))], by rw [<- PH μ (J ++ _)]; exact No (qc hP) hr2 (Ug.mp hi) hE⟩⟩)
  ((UM page.length).length + 1) 0 (LE.comp (Zl P [("odd", .loc O), ("keys", .loc K)]) (lcN xY)) [] ⟨none, by kernel_rfl⟩ rfl (Rj _)
 rw [PS, U3, Uf] at q
 refine ⟨J, (qA q ?_).trans ?_⟩
 ·rw [PJ]; exact Pq (RY _ _) (by rw [Ad, Uf]; exact hr2)
 ·unfold pl qJ; rw [Su]; rfl
theorem Wj (hE : ∀ e ∈ page, EOK e) : ∀ p ∈ z0 page, TOK p := fun p hp => by
 obtain ⟨e, he, rfl⟩ := Ri.mp (RM.mp hp).1
 exact (hE e he).2
structure OS (n P : Nat) (μ : q4) (page : Loc) (J : q4) (v : PV) : Prop where
 e : (evN ftT (n + 60)).call 245 [.loc P] [] μ = some (.ok v, μ ++ J)
 n : z0 page = [] -> ∃ a, v = .loc a /\ q5 (μ ++ J) a = some ((qJ page).map qB)
 c : ∀ p l, z0 page = p :: l -> v = p
theorem Cl (hP : q5 μ P = some (page.map qB)) (hr : page.length <= 1000) (hE : ∀ e ∈ page, EOK e) : ∃ J v, OS n P μ page J v := by
 have hr2 : page.length <= Pr := Pq hr (by decide)
 have ca := fun n => LB (n := n) (P := P) hP hr2 hE
 have hP1 : q5 (μ ++ [.list (z0 page)]) P = some (page.map qB) := qc hP
 have cb := fun n => Iv (n := n) (P := P) (O := μ.length) hP1 hr2
 have hK : q5 (μ ++ [.list (z0 page)] ++ [ls (page.map (·.1))]) (μ ++ [q8.list (z0 page)]).length = some ((page.map (·.1)).map .str) := q6
 obtain ⟨J, cd⟩ := I0 (n := n + 37) (O := μ.length) hK (qc hP1) hr hE
 have hs := qK hP
 have hs1 := qK hP1
 rw [PJ] at hs hs1
 have hO : q5 (μ ++ [.list (z0 page)] ++ [ls (page.map (·.1))] ++ J ++ [pl (qJ page)]) μ.length = some (z0 page) := qc (qc (qc q6))
 have hlK : q5 (μ ++ [.list (z0 page)] ++ [ls (page.map (·.1))]) (μ ++ [q8.list (z0 page)]).length = some ((page.map (·.1)).map PV.str) := hK
 have e : μ ++ [q8.list (z0 page)] ++ [ls (page.map (·.1))] ++ J ++ [pl (qJ page)] ++ [.list []] = μ ++ ([q8.list (z0 page)] ++ [ls (page.map (·.1))] ++ J ++ [pl (qJ page)] ++ [.list []]) := by
  rw [PH, PH, PH, PH, PH, PH, PH]
 have hm : ((page.map (·.1)).map PV.str).length = page.length := by rw [PJ, PJ]
 refine ⟨[q8.list (z0 page)] ++ [ls (page.map (·.1))] ++ J ++ [pl (qJ page)] ++ [.list []], ?_⟩
 rw [<- hm] at cd
 induction ho : z0 page using PD with
 | nil =>
   rw [ho] at ca cb cd hs1 hK hO e
   refine ⟨.loc (μ ++ [q8.list []] ++ [ls (page.map (·.1))] ++ J).length, ?_, fun zz => ⟨_, rfl, (by rw [<- e]; exact qc q6)⟩, (fun p l h => by rw [ho] at h; exact nomatch h)⟩
   rw [<- e]
   exact jv (n := n) (k := 59) [fR (hs), fV (ca (n + 49)), fR (hs1), fV (cb (n + 49)), fL (hK), fV (cd), .d, .d, fV (Vl (t := true) hO (fun zz h => nomatch h) rfl)] (by kernel_rfl)
 | cons p l =>
   have hT := Wj hE
   rw [ho] at ca cb cd hs1 hK hO e hT
   refine ⟨p, ?_, (fun h => by rw [ho] at h; exact nomatch h), (fun p' l' h => by rw [ho] at h; injection h)⟩
   rw [<- e]
   exact jv (n := n) (k := 59) [fR (hs), fV (ca (n + 49)), fR (hs1), fV (cb (n + 49)), fL (hK), fV (cd), .d, .d, fV (Vl (t := false) hO hT rfl), fV (v9 (qc (J := [.list []]) hO))] (by kernel_rfl)
end
noncomputable def JZ (x : Exn) : PV := if x.cls = "ValueError" then .none else .int 0
noncomputable def dOf (page : Loc) : Ua := match z0 page with
 | [] => .list ((qJ page).map wI)
 | p :: _ => zg p
structure Zw (ν : q4) (page : Loc) (v : PV) : Prop where
 n : z0 page = [] -> ∃ a, v = .loc a /\ q5 ν a = some ((qJ page).map qB)
 c : ∀ p l, z0 page = p :: l -> v = p
structure ZJ (rows : Ps) (page : Loc) (nm : Str) : Prop where
 an : nm = AB \/ nm = XM
 lo : Pt nm = nm
 up : Pt (Tl nm) = nm
 ul : (Tl nm).length <= Pr
 k1 : JP rows (Tl nm)
 k2 : JP rows nm
 rd : (qz (q7 rows nm)).map ent = page
 eo : ∀ e ∈ page, EOK e
 pl : page.length <= 1000
 wn : z0 page = [] -> kq (qz (q7 rows nm)) [] = .ok (qJ page)
 wc : ∀ p l, z0 page = p :: l -> ∃ x, kq (qz (q7 rows nm)) [] = .error x /\ JZ x = p
 lk : ∀ e ∈ qJ page, e.1.length <= 1000
 le : ∀ e ∈ qJ page, EOK e
 inn : (first rows nm).isSome = !page.isEmpty
section
variable {n T d H D N N2 P S m : Nat} {nm k : Str} {a b v p : PV} {μ μ0 ν J : q4} {es page pa pb : Loc} {rows : Ps} {zs : ZL} {x y : Ua} {c : Bool} {items : List Str}
theorem QZ (h : TOK p) : Sn (zg p) (zg p) = true := h.elim (C := fun p => Sn (zg p) (zg p) = true) rfl rfl fun s zz => beq_self_eq_true s
theorem J6 (h : ∀ e ∈ es, EOK e) : Sn (.list (es.map wI)) (.list (es.map wI)) = true := by
 show TV (es.map wI) (es.map wI) = true
 induction es with
 | nil => rfl
 | cons e es ih =>
   show ((e.1 == e.1 && (Sn (zg e.2) (zg e.2) && true)) && TV (es.map wI) (es.map wI)) = true
   rw [beq_self_eq_true, QZ (h e (.head _)).2, ih fun x hx => h x (.tail _ hx)]; rfl
theorem NB (ha : jd μ a = some x) (hb : jd μ b = some x) (h : Sn x x = true) : qY .NotEq a b μ = some (.ok (.bool false), μ) := by
 show (peq μ a b).map _ = _
 unfold peq
 rw [ha, PL, hb, Ay, h]; rfl
theorem OZ (ha : jd μ a = some x) (hb : jd μ b = some x) (h : Sn x x = true) : qY .Eq a b μ = some (.ok (.bool true), μ) := by
 show (peq μ a b).map _ = _
 unfold peq
 rw [ha, PL, hb, Ay, h]; rfl
theorem Ms : qY .NotEq (.bool c) (.bool c) μ = some (.ok (.bool false), μ) := by induction c <;> rfl
theorem XW (h : TOK p) : jd μ p = some (zg p) := h.elim (C := fun p => jd μ p = some (zg p)) rfl rfl fun zz hs => zF hs
theorem gU (t : Zw ν page v) (hE : ∀ e ∈ page, EOK e) (hL : ∀ e ∈ qJ page, EOK e) : jd ν v = some (dOf page) /\ Sn (dOf page) (dOf page) = true := by
 unfold dOf
 induction ho : z0 page using PD with
 | nil =>
   obtain ⟨a, e, h⟩ := t.n ho
   rw [e]; exact ⟨zA h hL, J6 hL⟩
 | cons p l =>
   have hp := Wj hE p (by rw [ho]; exact .head _)
   rw [t.c p l ho]; exact ⟨XW hp, QZ hp⟩
theorem Zw.app (t : Zw ν page v) : Zw (ν ++ J) page v := ⟨fun h => (t.n h).elim fun a q => ⟨a, q.1, qc q.2⟩, t.c⟩
theorem BD (page : Loc) : (qJ page).length <= page.length := by
 unfold qJ
 rw [PJ]
 exact Pq (RY _ _) (TB Uf)
theorem On (f : ZJ rows page nm) (hm : q5 μ m = some ((qz (q7 rows nm)).map .str)) (hit : ∀ s ∈ qz (q7 rows nm), zU s) (hlen : (qz (q7 rows nm)).length <= Pr) :
 ∃ K v, (evN ftT (n + 20)).call 208 [.loc m] [] μ = some (.ok v, μ ++ K) /\ Zw (μ ++ K) page v := by
 induction ho : z0 page using PD with
 | nil =>
   obtain ⟨J, h⟩ := ZY (n := n) hm hit hlen (f.wn ho) (PT.mpr fun e he => decide_eq_true (Pq (f.lk e he) (by decide))) (Pq (BD page) (Pq f.pl (by decide)))
   refine ⟨J ++ [.list (pairs (qJ page))], _, by rw [h, PH], fun zz => ⟨_, rfl, by rw [<- PH]; exact q6⟩, fun p l h => by rw [ho] at h; exact nomatch h⟩
 | cons p l =>
   obtain ⟨x, hx, hp⟩ := f.wc p l ho
   obtain ⟨J, h⟩ := fD (n := n) hm hit hlen hx
   exact ⟨J, JZ x, h, (fun h => by rw [ho] at h; exact nomatch h), fun p' l' h => by rw [ho] at h; injection h with h; rw [hp, h]⟩
noncomputable def nmo : Option Str -> Loc
 | none => []
 | some x => [("name", .str x)]
noncomputable abbrev Qu (v : PV) (S T N D N2 : Nat) (o : Option Str) : LE := ⟨qm 250, ("script", v) :: ("steps", .loc S) :: ("table", .loc T) :: ("notes", .loc N) :: ("book", .loc D) :: ("due", .loc N2) :: nmo o⟩
noncomputable abbrev Da : List Sf := qV (qo 250).body
theorem F0 (h : (Tl k).length <= Pr) : j0 (.str k) "upper" [] μ = some (.ok (.str (Tl k)), μ) := j1 h
theorem DE (hm : q5 μ m = some (page.map qB)) (h : ∀ e ∈ page, EOK e) : qY .NotEq (.loc m) (.loc μ.length) (μ ++ [.list []]) = some (.ok (.bool (!page.isEmpty)), μ ++ [.list []]) := by
 have e : jd (μ ++ [.list []]) (.loc μ.length) = some (.list []) := jc (l := []) q6 (fun zz q => nomatch q)
 show (peq _ _ _).map _ = _
 unfold peq
 rw [zA (qc hm) h, e]
 induction page <;> rfl
theorem WL {z : PV} (t : Tab μ T d H rows) (di : zM μ0 μ D N2 pa pb zs) (hpg : qv pa pb nm = page) (f : ZJ rows page nm) :
 ∃ J, (evN ftT (n + 120)).ex (Qu z S T N D N2 (some nm)) Da μ = some (.ok .next, Qu z S T N D N2 (some nm), μ ++ J) := by
 have hul := F0 (μ := μ) f.ul
 obtain ⟨J1, h215⟩ := Wg (n := n + 58) t f.k1
 have e1 : told rows (Tl nm) = page := by unfold told; rw [f.up]; exact f.rd
 rw [e1] at h215
 have c1 : q5 (μ ++ pl page :: J1) μ.length = some (page.map qB) := vV
 have d1 : zM μ0 (μ ++ pl page :: J1) D N2 pa pb zs := di.app
 have t1 := t.app (J := pl page :: J1)
 generalize hA : μ ++ pl page :: J1 = A at *
 obtain ⟨P, p1⟩ := d1.pg f.an
 rw [hpg] at p1
 have q1 := NB (zA c1 f.eo) (zA p1.l f.eo) (J6 f.eo)
 obtain ⟨J2, h201⟩ := Vc (n := n + 77) t1 f.k2.n (Pq f.k2.hr (by decide)) f.k2.k f.k2.r
 have k2o := f.k2.hio
 have k2n := f.k2.hin
 rw [f.lo] at h201 k2o k2n
 have c2 : q5 (A ++ J2 ++ [ls (qz (q7 rows nm))]) (A ++ J2).length = some ((qz (q7 rows nm)).map .str) := q6
 obtain ⟨K, v1, h208, tl1⟩ := On (n := n + 98) f c2 (fun s hs => (k2o s hs).ok) (Pq k2n (by decide))
 have d2 : zM μ0 (A ++ J2 ++ [ls (qz (q7 rows nm))] ++ K) D N2 pa pb zs := d1.app.app.app
 have t2 := ((t1.app (J := J2)).app (J := [ls (qz (q7 rows nm))])).app (J := K)
 have eB : ∃ X, A ++ J2 ++ [ls (qz (q7 rows nm))] ++ K = μ ++ X := ⟨pl page :: J1 ++ (J2 ++ ([ls (qz (q7 rows nm))] ++ K)), by rw [<- hA, PH, PH, PH]⟩
 generalize A ++ J2 ++ [ls (qz (q7 rows nm))] = A2 at *
 generalize A2 ++ K = B at *
 obtain ⟨X, eB⟩ := eB
 obtain ⟨P2, p2⟩ := d2.pg f.an
 rw [hpg] at p2
 obtain ⟨J4, v2, r⟩ := Cl (n := n + 58) p2.l f.pl f.eo
 have h245 := r.e
 have g1 := gU (tl1.app (J := J4)) f.eo f.le
 have g2 := gU (v := v2) (ν := B ++ J4) ⟨r.n, r.c⟩ f.eo f.le
 have q2 := NB g1.1 g2.1 g1.2
 have t3 := t2.app (J := J4)
 obtain ⟨P3, p3⟩ := (d2.app (J := J4)).pg f.an
 rw [hpg] at p3
 have h121 := fun n => Dn (n := n) t3 f.k2.n f.k2.k
 rw [f.lo, f.inn] at h121
 have q3 := DE p3.l f.eo
 refine ⟨X ++ (J4 ++ [.list []]), ?_⟩
 rw [<- PH μ, <- eB, <- PH]
 exact ql [fV (hul), fV (h215), fV (p1.i), fV (q1), fT (jF (t := false) (μ := A)), fV (h201), fV (h208), fV (p2.i), fV (h245), fV (q2), fT (jF (t := false) (μ := B ++ J4)), fI (t3.i), fV (h121 (n + 92)), fT (jF (t := !List.isEmpty page) (μ := B ++ J4)), fV (p3.i), .d, fV (q3), fV (Ms (c := !page.isEmpty) (μ := B ++ J4 ++ [.list []])), fT (jF (t := false) (μ := B ++ J4 ++ [q8.list []]))] (by kernel_rfl)
end
noncomputable def SIX : List Int := [8400, 7021, 77033, 3690, 8, 27]
noncomputable def ki (i : Int) : Nat := (bX i 115200).toNat
noncomputable def jf (xs : List Int) : List St := (SIX ++ xs.take 5).map fun i => ye (ki i)
noncomputable def nd : jG -> Ua
 | .no => .none
 | .yes b => .bool b
 | .ctl => .str CTL
 | .lst l => .list (l.map .bool)
section
variable {n T d H D N N2 P S m a : Nat} {nm k : Str} {v p : PV} {μ μ0 ν J : q4} {pa pb : Loc} {rows : Ps} {zs : ZL} {is xs : List Int} {i : Int} {bs : List Bool} {x : jG} {ns : List jG} {tl : Loc}
theorem HI : kK .Mod (.int i) (.int 115200) μ = some (.ok (.int (ki i : Nat)), μ) := by
 show some (Rs (PV.int (bX i 115200)), μ) = _
 unfold ki
 rw [Ux (Int.fmod_nonneg_of_pos i (by decide))]
noncomputable abbrev YX : Expr := sE (qo 250).body 0 0 []
noncomputable abbrev D6 (o : Option PV) : LE := ⟨(LE.comp ⟨qm 250, []⟩ (lcN YX)).sc, Qw "x" o⟩
theorem CN {o : Option PV} {v : PV} : qu (D6 o) (qt YX) v = some (D6 (some v)) := by induction o <;> kernel_rfl
theorem IQ : ∃ J, (evN ftT (n + 60)).ev (D6 (some (.int i))) (lcE YX) μ = some (.ok (ye (ki i)).pv, μ ++ J) := by
 obtain ⟨J, h⟩ := DC (n := n + 19) (x := ki i) (μ := μ)
 refine ⟨J, ?_⟩
 exact xO [fV (HI (μ := μ) (i := i)), fV (h)] (by kernel_rfl)
theorem CC (hm : q5 μ m = some (is.map .int)) (hr : is.length <= Pr) :
 ∃ J, qF (evN ftT (n + 60)) (LE.comp ⟨qm 250, [("script", v)]⟩ (lcN YX)) (lcE YX) (qt YX) (qD YX) (.list m, is.length + 1) μ = some (.ok (.loc (μ ++ J).length), μ ++ J ++ [.list (is.map fun i => (ye (ki i)).pv)]) :=
 yl (Inv := fun σ => ∃ o, σ = D6 o) (by kernel_rfl) PV.int (vn hm) (fun σ i J ⟨o, ho⟩ zz => by
  obtain ⟨J', h⟩ := IQ (n := n) (i := i) (μ := μ ++ J)
  exact ⟨_, J', ho ▸ CN, ⟨_, rfl⟩, by rw [<- PH μ]; exact h⟩) ⟨none, by kernel_rfl⟩ hr
theorem BY : jj (jK μ 6) (bs.map .bool) = some (bs.map .bool) /\ RD (bs.map .bool) = true /\ Rz (bs.map .bool) = 0 /\ TV (bs.map .bool) (bs.map .bool) = true := by
 induction bs with
 | nil => exact ⟨rfl, rfl, rfl, rfl⟩
 | cons b bs ih =>
   refine ⟨show (jj (jK μ 6) (bs.map .bool)).map _ = _ by rw [ih.1]; rfl, ih.2.1, show max 0 (Rz (bs.map .bool)) = 0 by rw [ih.2.2.1]; rfl, show ((b == b) && TV (bs.map .bool) (bs.map .bool)) = true by rw [ih.2.2.2, beq_self_eq_true]; rfl⟩
theorem C9 (h : jV μ H N p x) : jK μ 7 p = some (nd x) /\ (nd x).canLay0 = true /\ (nd x).depth <= 1 /\ Sn (nd x) (nd x) = true := by
 induction x with
 | no => rw [show p = .none from h]; exact ⟨rfl, rfl, Rj _, rfl⟩
 | yes b => rw [show p = .bool b from h]; exact ⟨rfl, rfl, Rj _, beq_self_eq_true b⟩
 | ctl => rw [show p = .str CTL from h]; exact ⟨rfl, by decide +kernel, Rj _, beq_self_eq_true CTL⟩
 | lst l =>
   obtain ⟨a, e, _, _, hm⟩ := h
   have q := BY (μ := μ) (bs := l)
   rw [e]
   refine ⟨?_, q.2.1, show Rz (l.map .bool) + 1 <= 1 by rw [q.2.2.1]; exact PK _, q.2.2.2⟩
   show (q5 μ a).bind _ = _
   rw [hm]
   show (jj (jK μ 6) (l.map .bool)).map _ = _
   rw [q.1]; rfl
theorem ZE (h : ∀ z ∈ zs, jV μ H N z.1 z.2) : jj (jK μ 7) (zs.map RN) = some ((zs.map Rh).map nd) /\ RD ((zs.map Rh).map nd) = true /\ Rz ((zs.map Rh).map nd) <= 1 /\ TV ((zs.map Rh).map nd) ((zs.map Rh).map nd) = true := by
 induction zs with
 | nil => exact ⟨rfl, rfl, Rj _, rfl⟩
 | cons z zs ih =>
   have q := ih fun y hy => h y (.tail _ hy)
   have p := C9 (h z (.head _))
   refine ⟨show (jK μ 7 z.1).bind (fun d => (jj (jK μ 7) (zs.map RN)).map fun ds => d :: ds) = _ by rw [p.1, q.1]; rfl, show ((nd z.2).canLay0 && RD ((zs.map Rh).map nd)) = true by rw [p.2.1, q.2.1]; rfl, show max (nd z.2).depth (Rz ((zs.map Rh).map nd)) <= 1 from Nat.max_le.mpr ⟨p.2.2.1, q.2.2.1⟩, show (Sn (nd z.2) (nd z.2) && TV ((zs.map Rh).map nd) ((zs.map Rh).map nd)) = true by rw [p.2.2.2, q.2.2.2]; rfl⟩
theorem kI (hm : q5 μ a = some (zs.map RN)) (h : ∀ z ∈ zs, jV μ H N z.1 z.2) : jd μ (.loc a) = some (.list ((zs.map Rh).map nd)) := by
 show (((q5 μ a).bind fun l => (jj (jK μ 7) l).map SV).bind _) = _
 rw [hm]
 show (((jj (jK μ 7) (zs.map RN)).map SV).bind _) = _
 have q := ZE h
 rw [q.1]
 refine if_pos ?_
 show (RD ((zs.map Rh).map nd) && decide (Rz ((zs.map Rh).map nd) + 1 <= 64)) = true
 rw [q.2.1, decide_eq_true (Pq (Rb q.2.2.1) (by decide))]; rfl
theorem KR {o : Option Str} : qu (Qu v S T N D N2 o) (y5 (qo 250).body) (.str nm) = some (Qu v S T N D N2 (some nm)) := by induction o <;> kernel_rfl
theorem QJ {r : Ev} {src : Src} {t : Expr} {b : List Sf} {k i : Nat} {σ σ' σ₁ : LE} {μ μ₁ : q4} {v : PV} (h1 : xo src i μ = some (some v)) (h2 : qu σ t v = some σ') (h3 : r.ex σ' b μ = some (.ok .next, σ₁, μ₁)) : zQ r src t b (k + 1) i σ μ = zQ r src t b k (i + 1) σ₁ μ₁ := by
 conv => lhs; unfold zQ
 rw [h1]
 show (qu σ t v).bind _ = _
 rw [h2]
 dsimp only [PL]
 rw [h3]
noncomputable abbrev NL : q8 := .list [.str AB, .str XM]
theorem Dl {J1 J2 : q4} (h1 : (evN ftT (n + 120)).ex (Qu v S T N D N2 (some AB)) Da (ν ++ [NL]) = some (.ok .next, Qu v S T N D N2 (some AB), ν ++ [NL] ++ J1)) (h2 : (evN ftT (n + 120)).ex (Qu v S T N D N2 (some XM)) Da (ν ++ [NL] ++ J1) = some (.ok .next, Qu v S T N D N2 (some XM), ν ++ [NL] ++ J1 ++ J2)) :
 zQ (evN ftT (n + 120)) (.list ν.length) (y5 (qo 250).body) Da 3 0 (Qu v S T N D N2 none) (ν ++ [NL]) = some (.ok .next, Qu v S T N D N2 (some XM), ν ++ [NL] ++ J1 ++ J2) := by
 have p0 : q5 (ν ++ [NL]) ν.length = some [.str AB, .str XM] := q6
 have p1 := qc (J := J1) p0
 have p2 := qc (J := J2) p1
 have g : ∀ {μ : q4} {i : Nat} {nm : Str}, q5 μ ν.length = some [.str AB, .str XM] -> ([PV.str AB, .str XM] : List PV)[i]? = some (.str nm) -> xo (.list ν.length) i μ = some (some (.str nm)) := fun h hi => by
  show (q5 _ ν.length).map _ = _
  rw [h]; exact congrArg some hi
 rw [QJ (g p0 rfl) KR h1, QJ (g p1 rfl) KR h2]
 unfold zQ
 show ((q5 _ ν.length).map _).bind _ = _
 rw [p2]; rfl
theorem G9 (hl : xs.length <= 1000) : wM (.il xs) none (some (.int 5)) ν = some (.ok (.loc ν.length), ν ++ [.list ((xs.take 5).map .int)]) := by
 show (if xs.length <= Pr then jr (gO (xs.map .int) none (some 5)) ν else none) = _
 rw [if_pos (Pq hl (by decide)), Zb (h := min 5 xs.length) (by rw [if_neg (by decide), PJ]; rfl) (by rw [PJ]; exact bE ..), <- List.map_take, <- List.take_eq_take_min]
 exact ji (by rw [PJ, T9]; exact Pq (TZ ..) (by decide))
theorem DL (hl : xs.length <= 63) {GP : Nat -> Ps -> List jG -> Prop} {GD : Nat -> Loc -> Loc -> List jG -> Prop} (hP0 : GP 0 [] []) (hD0 : GD 0 [] [] [])
 (hP : ∀ P i (hi : i < (jf xs).length) μ0 μ1 T d H N rows zs, GP i rows (zs.map Rh) -> xl μ0 μ1 T d H N rows zs -> ∃ rows' ns', wt (n + 17) P μ0 μ1 T N (jf xs)[i] rows' ns' /\ GP (i + 1) rows' ns')
 (hD : g9 (jf xs) GD)
 (hF : ∀ rows ns pa pb ns', GP (jf xs).length rows ns -> GD (jf xs).length pa pb ns' -> ns = ns' /\ ZJ rows (qv pa pb AB) AB /\ ZJ rows (qv pa pb XM) XM) :
 ∃ μ', (evN ftT (n + 122)).call 250 [.il xs] [] μ = some (.ok (.bool true), μ') := by
 have hsl := G9 (ν := μ ++ [.list (SIX.map .int)]) (xs := xs) (Pq hl (by decide))
 have ht : (xs.take 5).length <= 5 := by rw [T9]; exact TZ ..
 have hi : (SIX ++ xs.take 5).length <= 11 := by rw [PB]; exact So ht 6
 have hadd := wf (μ := μ ++ [.list (SIX.map .int)] ++ [.list ((xs.take 5).map .int)]) (a := μ.length) (b := (μ ++ [q8.list (SIX.map PV.int)]).length) (qc q6) q6 (by rw [<- Rt, PJ]; exact Pq hi (by decide))
 rw [<- Rt] at hadd
 have hmA : q5 (μ ++ [.list (SIX.map .int)] ++ [.list ((xs.take 5).map .int)] ++ [.list ((SIX ++ xs.take 5).map .int)]) (μ ++ [q8.list (SIX.map PV.int)] ++ [q8.list ((xs.take 5).map PV.int)]).length = some ((SIX ++ xs.take 5).map .int) := q6
 obtain ⟨J, hc⟩ := CC (n := n + 59) (v := .il xs) hmA (Pq hi (by decide))
 have hs := qK hmA
 rw [PJ] at hs
 have hst : ((SIX ++ xs.take 5).map fun i => (ye (ki i)).pv) = (jf xs).map St.pv := (Su (g := St.pv) (f := fun i => ye (ki i)) (l := SIX ++ xs.take 5)).symm
 rw [hst] at hc
 generalize hA : μ ++ [q8.list (SIX.map PV.int)] ++ [q8.list ((xs.take 5).map PV.int)] ++ [q8.list ((SIX ++ xs.take 5).map PV.int)] = A at *
 have hSB : q5 (A ++ J ++ [.list ((jf xs).map St.pv)]) (A ++ J).length = some ((jf xs).map St.pv) := q6
 generalize A ++ J ++ [q8.list ((jf xs).map St.pv)] = B at *
 generalize (A ++ J).length = S at *
 obtain ⟨ν1, T, d, H, N, rows, zs, c1, pi, gp⟩ := DK (n := n + 17) hSB hP0 (fun i hi μ1 T d H N rows zs => hP S i hi B μ1 T d H N rows zs)
 obtain ⟨ν2, N2, pa, pb, zs2, c2, di, gd2⟩ := Cy (n := n + 17) (pi.ext.list hSB) hD0 hD
 obtain ⟨hns, f1, f2⟩ := hF rows _ pa pb _ gp gd2
 have t0 : Tab ν2 T d H rows := by
  obtain ⟨c, hc, _⟩ := bnd (show (ν1[T]?).bind xA = some d from pi.tab.i)
  exact ⟨(congrArg (·.bind xA) (di.ext.2 T (R0.mp hc).1)).trans pi.tab.i, kG pi.tab.d (di.ext.2 d (Wq pi.tab.d)), di.ext.list pi.tab.h⟩
 obtain ⟨J1, t1⟩ := WL (n := n) (S := S) (N := N) (z := .il xs) (t0.app (J := [NL])) di.app rfl f1
 obtain ⟨J2, t2⟩ := WL (n := n) (S := S) (N := N) (z := .il xs) ((t0.app (J := [NL])).app (J := J1)) (di.app (J := [NL])).app rfl f2
 have hfor := Dl t1 t2
 have hsn := qK (μ := ν2 ++ [NL]) (m := ν2.length) (l := [.str AB, .str XM]) q6
 have dF := ((di.app (J := [NL])).app (J := J1)).app (J := J2)
 have e1 : jd (ν2 ++ [NL] ++ J1 ++ J2) (.loc N) = some (.list ((zs.map Rh).map nd)) := kI (H := H) (N := N) (dF.ext.list pi.nl) fun z hz => (pi.reps z hz).mono fun a l q h1 zz => ⟨h1, dF.ext.list q⟩
 have e2 : jd (ν2 ++ [NL] ++ J1 ++ J2) (.loc N2) = some (.list ((zs2.map Rh).map nd)) := kI dF.nl dF.reps
 have hq := OZ e1 (hns ▸ e2) (ZE (zs := zs) (μ := ν2 ++ [NL] ++ J1 ++ J2) (H := H) (N := N) fun z hz => (pi.reps z hz).mono fun a l q h1 zz => ⟨h1, dF.ext.list q⟩).2.2.2
 refine ⟨ν2 ++ [NL] ++ J1 ++ J2, ?_⟩
 exact jv (n := n) (k := 121) [.d, fV (hsl), fV (hadd), fR (hs), fV (hc), fV (c1), fV (c2), fR (hsn), fS (hfor), fV (hq)] (by kernel_rfl)
end
section
open Builtin Builtin.Str
noncomputable def yd (l : List Nat) : List Nat := (l.reverse.dropWhile Rp).reverse
noncomputable def stR (w : Str) : Str := ⟨(yd w.cps.toList).toArray⟩
theorem Cs (w : Str) : (stR w).cps.toList = yd w.cps.toList := by simp [stR]
theorem K8 (l : List Nat) : (yd l).length <= l.length := by
 unfold yd
 rw [aC]
 have := (AG Rp (l := l.reverse)).length_le
 rw [aC] at this
 exact this
theorem Y9 {l : List Nat} {c : Nat} (h : c ∈ yd l) : c ∈ l := by
 unfold yd at h
 rw [TD] at h
 exact TD.mp ((AG Rp (l := l.reverse)).subset h)
set_option tactic.hygienic true in
theorem XR {a : List Nat} {c d : Nat} {m w : List Nat} (h1 : a = c :: m ++ [d]) (hc : Rp c = false) (hd : Rp d = false) : xF (a ++ w) = a ++ yd w := by
 unfold xF yd
 have e1 : (a ++ w).dropWhile Rp = a ++ w := by
  rw [h1]
  show ae _ (c :: _) = _
  rw [UN (by simp [hc])]
  rfl
 rw [e1, TQ, AF]
 split
 ·rename_i hq
  rw [Rf] at hq
  rw [hq]
  rw [h1, TQ]
  show (ae _ (d :: _)).reverse = _
  rw [UN (by simp [hd])]
  simp
 ·rw [TQ, Uq]
noncomputable def EQ : Str := Pv "="
theorem gH : EQ.cps.toList = 61 :: [] := by decide +kernel
theorem Vd : strKind EQ = 1 := by decide +kernel
theorem we (x : Str) : Pz x = true ↔ ∀ c ∈ x.cps.toList, c < 0x110000 := by
 unfold Pz
 rw [<- bA, PT]
 simp
theorem xa {a b : Str} (ha : Pz a = true) (hb : Pz b = true) : Pz (a ++ b) = true := by
 rw [we] at *
 intro c hc
 rw [qr, mem_append] at hc
 rcases hc with h | h
 ·exact ha c h
 ·exact hb c h
structure zb (r : Str) (e : Str × PV) : Prop where
 cl : qp r
 bt : ∃ s, jI r = [s] /\ (s == Pv "") = false /\ IOK s /\ Pz s = true /\ ent s = e
 ch : ∀ c ∈ r.cps.toList, okC c = true
 ln : r.length <= 60
structure I1 (k : Str) : Prop where
 hd : ∃ c m, k.cps.toList = c :: m /\ Rp c = false
 pl : k.cps.toList.all zw = true
 ne : 61 ∉ k.cps.toList
 ch : ∀ c ∈ k.cps.toList, okC c = true
 ln : k.length <= 10
theorem Zi {c : Nat} (h : okC c = true) : c < 0x110000 := by
 unfold okC at h
 simp only [Rl, decide_eq_true_eq] at h
 exact h.1
theorem OQ {k v w : Str} {p : PV} (hk : I1 k) (hv : run v = ⟨[], w, false, false⟩) (hp : (if (stR w).length = 0 then PV.int 0 else .str (unq (stR w))) = p) (hT : TOK p) (hc : ∀ c ∈ v.cps.toList, okC c = true) (hw : ∀ c ∈ w.cps.toList, c < 0x110000) (hl : v.length <= 40) (hwl : w.length <= 40) : zb (k ++ (EQ ++ v)) (k, p) := by
 obtain ⟨c, m, hcm, hsp⟩ := hk.hd
 have hall : (k ++ EQ).cps.toList.all zw = true := by
  rw [qr, List.all_append, hk.pl, gH]; decide
 have hcl : qp (k ++ EQ) := wg hall
 have hclv : qp v := by unfold qp; rw [hv]; exact ⟨rfl, rfl⟩
 have hu : (stR w).cps.toList = yd w.cps.toList := Cs w
 have hul : (stR w).length <= 40 := by
  have h1 : (stR w).cps.toList.length = (stR w).length := by simp [Sa]
  have h2 : w.cps.toList.length = w.length := by simp [Sa]
  have h3 := K8 w.cps.toList
  rw [hu] at h1
  lia
 have hstrip : RT ((k ++ EQ) ++ w) = k ++ (EQ ++ stR w) := by
  apply jU
  rw [xh, qr, XR (c := c) (m := m) (d := 61) (by rw [qr, hcm, gH]) hsp (by decide +kernel), <- hu, qr, qr, qr, PH]
 have hbits : jI (k ++ (EQ ++ v)) = [k ++ (EQ ++ stR w)] := by
  unfold jI
  rw [<- qh, fJ hall, hv]
  show [RT ((k ++ EQ) ++ w)] = _
  rw [hstrip]
 have hsps : sp (k ++ (EQ ++ stR w)) = [k, stR w] := QL gH Vd hk.ne
 have hent : ent (k ++ (EQ ++ stR w)) = (k, p) := by
  unfold ent
  rw [hsps, <- hp]
  rfl
 have huo : Pz (stR w) = true := by
  rw [we, hu]
  exact fun c hc => hw c (Y9 hc)
 have hko : Pz k = true := by
  rw [we]
  exact fun c hc => Zi (hk.ch c hc)
 obtain ⟨t, ht⟩ := Br (v := stR w) gH Vd hk.ne
 have hkl := hk.ln
 have hel : EQ.length = 1 := by decide +kernel
 have htl := (PyProof.Rows.split_le (k ++ (EQ ++ stR w)) EQ)
 rw [ht] at htl
 simp only [PN, SX] at htl
 refine ⟨by rw [<- qh]; exact xm hcl hclv, ⟨_, hbits, ?_, ⟨⟨by simp only [PN]; lia, .inr ⟨k, stR w, hsps, by lia, huo⟩⟩, by simp only [PN]; lia, ⟨t, by rw [hent]; exact ht, by lia⟩, by rw [hent]; show k.length <= _; lia, by rw [hent]; exact ⟨hko, hT⟩⟩, xa hko (xa (by decide +kernel) huo), hent⟩, ?_, by simp only [PN]; lia⟩
 ·rw [beq_eq_false_iff_ne]
  intro e
  have := congrArg Sa e
  simp only [PN] at this
  rw [hel, show (Pv "").length = 0 by decide +kernel] at this
  lia
 ·intro c hc'
  rw [qr, qr, mem_append, mem_append] at hc'
  rcases hc' with h | h | h
  ·exact hk.ch c h
  ·rw [gH] at h
   rw [Pw.mp h]
   decide
  ·exact hc c h
theorem Vn {r : Str} {e : Str × PV} (h : E8 r e = true) (hs : Pz (RT (run r).p) = true) : zb r e := by
 unfold E8 at h
 simp only [Rl, decide_eq_true_eq, S8, Rf] at h
 obtain ⟨⟨⟨⟨⟨h1, h2⟩, h3⟩, ⟨h4, h5⟩, h6, h7⟩, h8⟩, h9⟩ := h
 have hb : jI r = [RT (run r).p] := by
  unfold jI raw
  rw [h1]
  rfl
 refine ⟨⟨h2, h3⟩, ⟨_, hb, h4, DB h5, hs, ?_⟩, PT.mp h8, h9⟩
 exact cu (eq_of_beq h6) (V3 h7)
end
noncomputable def QT : Str := Pv "\""
noncomputable def Zf (v : Str) (p : PV) : Bool := let s := run v
 s.l.isEmpty && !s.e && !s.q && v.cps.toList.all okC && s.p.cps.toList.all (fun c => decide (c < 0x110000)) && decide (v.length <= 40) && decide (s.p.length <= 40) && (let u := stR s.p; DY (if u.length = 0 then .int 0 else .str (unq u)) p)
theorem gf {k v : Str} {p : PV} (hk : I1 k) (h : Zf v p = true) (hT : TOK p) : zb (k ++ (EQ ++ v)) (k, p) := by
 unfold Zf at h
 simp only [Rl, decide_eq_true_eq, S8, Rf, PT] at h
 obtain ⟨⟨⟨⟨⟨⟨⟨h1, h2⟩, h3⟩, h4⟩, h5⟩, h6⟩, h7⟩, h8⟩ := h
 refine OQ (w := (run v).p) hk ?_ (V3 h8) hT h4 h5 h6 h7
 revert h1 h2 h3
 generalize run v = s
 obtain ⟨l, q, e, r⟩ := s
 simp only
 rintro rfl rfl rfl
 rfl
noncomputable def quo (x : Str) : Str := QT ++ (x ++ QT)
noncomputable def Og (t : Str) : Bool := let e := esc t
 decide (t.length <= 10) && Pz t && decide (e.length <= 100) && Pz e && (bad false t == !gd t) && (bad false e == !gd t) && (!gd t || t.length == 0 || Zf (quo e) (.str t))
noncomputable def Od (t : Str) : Bool := ((t.cps.toList.any xz) == !(t.cps.toList.filter spc).isEmpty) && decide ((SA t (Pv "\\") (Pv "\\\\")).length <= 100)
noncomputable def Md (t : Str) : Bool := !gd t || ((t.length == 0 || t.cps.toList.any xz || Zf t (back t 0)) && Zf (quo (PW PF (bsl t))) (.str t))
theorem Pk : TXT.all Og = true := by decide +kernel
theorem Pc : TXT.all Od = true := by decide +kernel
theorem OC : TXT.all Md = true := by decide +kernel
theorem OG : TXT.all (fun t => !gd t || (TXT.contains (rst t) && gd (rst t))) = true := by decide +kernel
theorem Pa : RAW.all (fun t => Zf (if t.length = 0 then quo PF else t) (.str t)) = true := by decide +kernel
theorem MI : K6.all (fun k => E8 k (k, .none) && E8 (k ++ EQ) (k, .int 0) && Pz (RT (run k).p) && Pz (RT (run (k ++ EQ)).p)) = true := by decide +kernel
noncomputable def Mt (k : Str) : Bool := (match k.cps.toList with | c :: _ => !Rp c | [] => false) && k.cps.toList.all zw && !k.cps.toList.contains 61 && k.cps.toList.all okC && decide (k.length <= 10)
theorem Pg : K6.all Mt = true := by decide +kernel
set_option tactic.hygienic true in
theorem YL {k : Str} (hk : k ∈ K6) : I1 k := by
 have h := PT.mp Pg k hk
 unfold Mt at h
 simp only [Rl, decide_eq_true_eq, S8] at h
 obtain ⟨⟨⟨⟨h1, h2⟩, h3⟩, h4⟩, h5⟩ := h
 refine ⟨?_, h2, ?_, PT.mp h4, h5⟩
 ·split at h1
  ·rename_i c m q
   exact ⟨c, m, q, by simpa using h1⟩
  ·cases h1
 ·intro hm
  rw [RR.mpr hm] at h3
  cases h3
theorem F5 {t : Str} (h : t ∈ RAW) : t ∈ TXT := Ra _ h
theorem BP : ∀ s ∈ yu, s ∈ SG := by decide +kernel
theorem xV {l : List Str} {i : Nat} (h : i < l.length) : l.getD i PF ∈ l := by
 rw [S7, PY h]
 exact Rx h
set_option tactic.hygienic true in
theorem K4 (x : Nat) : vT x ∈ TXT /\ (x / 38400 % 3 = 2 -> vT x ∈ RAW) := by
 have b1 : x / 120 % 32 < yu.length := by rw [show yu.length = 32 by decide +kernel]; lia
 have b2 : x / 3840 % 10 < TL.length := by rw [show TL.length = 10 by decide +kernel]; lia
 have b3 : x / 120 % 32 % 3 < RAW.length := by rw [show RAW.length = 3 by decide +kernel]; lia
 unfold vT
 split
 ·rename_i h
  exact ⟨F5 (xV b3), fun zz => xV b3⟩
 ·rename_i h
  refine ⟨Ro _ ?_, fun q => absurd q h⟩
  rw [Uj]
  exact ⟨_, BP _ (xV b1), Ri.mpr ⟨_, xV b2, rfl⟩⟩
def InT (p : PV) : Prop := p = .none \/ p = .int 0 \/ ∃ t ∈ TXT, gd t = true /\ p = .str t
def InE (e : Str × PV) : Prop := e.1 ∈ K6 /\ InT e.2
structure TxF (t : Str) : Prop where
 ln : t.length <= 10
 so : Pz t = true
 el : (esc t).length <= 100
 eo : Pz (esc t) = true
 bt : bad false t = !gd t
 be : bad false (esc t) = !gd t
 vq : gd t = true -> t.length ≠ 0 -> Zf (quo (esc t)) (.str t) = true
 sp : t.cps.toList.any xz = !(t.cps.toList.filter spc).isEmpty
 rl : (SA t (Pv "\\") (Pv "\\\\")).length <= 100
 v0 : gd t = true -> t.length ≠ 0 -> t.cps.toList.any xz = false -> Zf t (back t 0) = true
 v3 : gd t = true -> Zf (quo (PW PF (bsl t))) (.str t) = true
 rs : gd t = true -> rst t ∈ TXT /\ gd (rst t) = true
theorem txF {t : Str} (ht : t ∈ TXT) : TxF t := by
 have h1 := PT.mp Pk t ht
 have h2 := PT.mp Pc t ht
 have h3 := PT.mp OC t ht
 have h4 := PT.mp OG t ht
 unfold Og at h1
 unfold Od at h2
 unfold Md at h3
 simp only [Rl, decide_eq_true_eq, Tk, S8, beq_iff_eq, RR] at h1 h2 h3 h4
 obtain ⟨⟨⟨⟨⟨⟨a1, a2⟩, a3⟩, a4⟩, a5⟩, a6⟩, a7⟩ := h1
 obtain ⟨b1, b2⟩ := h2
 refine ⟨a1, a2, a3, a4, a5, a6, fun g n => ?_, b1, b2, fun g n s => ?_, fun g => ?_, fun g => ?_⟩
 ·rcases a7 with (h | h) | h
  ·rw [g] at h; cases h
  ·exact absurd h n
  ·exact h
 ·rcases h3 with h | ⟨(h | h) | h, _⟩
  ·rw [g] at h; cases h
  ·exact absurd h n
  ·rw [s] at h; cases h
  ·exact h
 ·rcases h3 with h | ⟨_, h⟩
  ·rw [g] at h; cases h
  ·exact h
 ·rcases h4 with h | h
  ·rw [g] at h; cases h
  ·exact h
theorem V2 {p : PV} (h : InT p) : TOK p := by
 rcases h with rfl | rfl | ⟨t, ht, _, rfl⟩
 ·exact .inl rfl
 ·exact .inr (.inl rfl)
 ·exact .inr (.inr ⟨t, rfl, (txF ht).so⟩)
theorem vx {t : Str} (ht : t ∈ TXT) (g : gd t = true) (q : Int) : InT (back t q) := by
 unfold back
 split
 ·exact .inr (.inr ⟨t, ht, g, rfl⟩)
 ·split
  ·exact .inl rfl
  ·split
   ·exact .inr (.inr ⟨t, ht, g, rfl⟩)
   ·split
    ·exact .inr (.inl rfl)
    ·exact .inr (.inr ⟨_, ((txF ht).rs g).1, ((txF ht).rs g).2, rfl⟩)
theorem ED {p : PV} (h : InT p) (q : Int) : InT (bk p q) := by
 rcases h with rfl | rfl | ⟨t, ht, g, rfl⟩
 ·exact .inl rfl
 ·exact .inr (.inl rfl)
 ·exact vx ht g q
theorem eqq : Pv "=\"" = EQ ++ QT := by decide +kernel
theorem Xq {k : Str} (hk : k ∈ K6) : zb k (k, .none) := by
 have h := PT.mp MI k hk
 simp only [Rl] at h
 exact Vn h.1.1.1 h.1.2
theorem Fu {k : Str} (hk : k ∈ K6) : zb (k ++ EQ) (k, .int 0) := by
 have h := PT.mp MI k hk
 simp only [Rl] at h
 exact Vn h.1.1.2 h.2
theorem gg (k t : Str) : ZQ k t = k ++ (EQ ++ quo (esc t)) := by
 unfold ZQ quo
 rw [jP, eqq, qh, qh, qh]; rfl
theorem WW (k t : Str) : YA k t = k ++ (EQ ++ t) := by
 unfold YA
 rw [jP, qh]; rfl
noncomputable def tq (p : PV) (q : Int) : PV := if q = 2 \/ q = 3 then p else bk p q
theorem OH {p : PV} {q : Int} (h : q = 2 \/ q = 3) : tq p q = p := if_pos h
theorem Po {q : Int} : tq .none q = .none := by unfold tq; split <;> rfl
theorem Pb {q : Int} : tq (.int 0) q = .int 0 := by unfold tq; split <;> rfl
theorem Fl {k t : Str} {q : Int} (h2 : q ≠ 2) (h3 : q ≠ 3) : wr k (.str t) q = fmt k t q := (if_neg h2).trans (if_neg h3)
section
variable {k t : Str} {q : Int}
theorem Kq (hk : k ∈ K6) (h0 : t.length = 0) (h2 : q ≠ 2) : zb (fmt k t q) (k, back t q) := by
 rw [show fmt k t q = k from if_pos h0, show back t q = .none from (if_neg h2).trans (if_pos h0)]
 exact Xq hk
theorem Wu (hk : k ∈ K6) (ht : t ∈ TXT) (g : gd t = true) (h0 : t.length ≠ 0) (h2 : q ≠ 2) (hq : q = 1 \/ q = 0 /\ t.cps.toList.any xz = true) : zb (fmt k t q) (k, back t q) := by
 have f := txF ht
 have h1 : q = 1 \/ (t.cps.toList.filter spc).isEmpty = false := hq.imp_right fun h => by
  exact (S8 _).mp (f.sp.symm.trans h.2)
 rw [show fmt k t q = _ from (if_neg h0).trans (if_pos (hq.imp (fun h => by rw [h]; decide) (·.2))), show back t q = .str t from (if_neg h2).trans ((if_neg h0).trans (if_pos h1)), gg]
 exact gf (YL hk) (f.vq g h0) (.inr (.inr ⟨t, rfl, f.so⟩))
theorem KC (hk : k ∈ K6) (ht : t ∈ TXT) (g : gd t = true) (h0 : t.length ≠ 0) (hs : t.cps.toList.any xz = false) : zb (fmt k t 0) (k, back t 0) := by
 rw [show fmt k t 0 = _ from (if_neg h0).trans (if_neg (fun h => h.elim (fun h => h rfl) (fun h => by rw [hs] at h; exact nomatch h))), WW]
 exact gf (YL hk) ((txF ht).v0 g h0 hs) (V2 (vx ht g 0))
theorem ga (hk : k ∈ K6) (ht : t ∈ TXT) (g : gd t = true) (hq : q = 0 \/ q = 1) : zb (fmt k t q) (k, back t q) := by
 have h2 : q ≠ 2 := by rcases hq with rfl | rfl <;> decide
 by_cases h0 : t.length = 0
 ·exact Kq hk h0 h2
 ·rcases hq with rfl | rfl
  ·induction hs : t.cps.toList.any xz with
   | true => exact Wu hk ht g h0 h2 (.inr ⟨rfl, hs⟩)
   | false => exact KC hk ht g h0 hs
  ·exact Wu hk ht g h0 h2 (.inl rfl)
theorem MD (hk : k ∈ K6) (ht : t ∈ TXT) (g : gd t = true) : zb (wr k (.str t) 3) (k, .str t) := by
 have f := txF ht
 have e : wr k (.str t) 3 = k ++ (EQ ++ quo (PW PF (bsl t))) := by
  show k ++ Pv "=\"" ++ PW PF (bsl t) ++ Pv "\"" = _
  unfold quo
  rw [eqq, qh, qh, qh]; rfl
 rw [e]
 exact gf (YL hk) (f.v3 g) (.inr (.inr ⟨t, rfl, f.so⟩))
theorem Hd (hk : k ∈ K6) (ht : t ∈ RAW) : zb (wr k (.str t) 2) (k, .str t) := by
 have e : wr k (.str t) 2 = k ++ (EQ ++ (if t.length = 0 then quo PF else t)) := by
  show k ++ EQ ++ (if t.length = 0 then Pv "\"\"" else t) = _
  rw [qh, show quo PF = Pv "\"\"" by decide +kernel]
 rw [e]
 exact gf (YL hk) (PT.mp Pa t ht) (.inr (.inr ⟨t, rfl, (txF (F5 ht)).so⟩))
theorem HH {p : PV} (hk : k ∈ K6) (hp : InT p) (hq : q = 0 \/ q = 1 \/ q = 3 \/ (q = 2 /\ ∃ t ∈ RAW, p = .str t)) : zb (wr k p q) (k, tq p q) := by
 rcases hp with rfl | rfl | ⟨t, ht, g, rfl⟩
 ·rw [Po]
  exact Xq hk
 ·rw [Pb]
  exact Fu hk
 ·rcases hq with rfl | rfl | rfl | ⟨rfl, t', ht', e'⟩
  ·exact ga hk ht g (.inl rfl)
  ·exact ga hk ht g (.inr rfl)
  ·exact MD hk ht g
  ·cases e'
   exact Hd hk ht'
end
structure GR (r : Str) : Prop where
 cl : qp r
 ne : its r ≠ []
 io : ∀ s ∈ its r, IOK s /\ Pz s = true /\ InE (ent s)
 ch : ∀ c ∈ r.cps.toList, okC c = true
theorem zb.it {r : Str} {e : Str × PV} (h : zb r e) : ∃ s, jI r = [s] /\ its r = [s] /\ isE s = false /\ ent s = e := by
 obtain ⟨s, h1, h2, h3, h4, h5⟩ := h.bt
 refine ⟨s, h1, ?_, h2, h5⟩
 unfold its
 rw [h1, filter_cons, h2]
 rfl
theorem zb.gr {r : Str} {e : Str × PV} (h : zb r e) (he : InE e) : GR r := by
 obtain ⟨s, h1, h2, h3, h4⟩ := h.it
 obtain ⟨s', g1, g2, g3, g4, g5⟩ := h.bt
 have hs : s' = s := by rw [h1] at g1; exact (aK g1).1.symm
 subst hs
 refine ⟨h.cl, by rw [h2]; simp, fun x hx => ?_, h.ch⟩
 rw [h2] at hx
 rw [Pw.mp hx]
 exact ⟨g3, g4, by rw [g5]; exact he⟩
theorem Q9 {l : List Str} (hl : l ≠ []) (h : ∀ r ∈ l, qp r) : its (PW qM l) = l.flatMap its := by
 unfold its
 rw [vW hl h, aA]
theorem yJ {sep : Str} {c : Nat} : ∀ {l : List Str}, c ∈ (PW sep l).cps.toList -> (∃ r ∈ l, c ∈ r.cps.toList) \/ c ∈ sep.cps.toList
 | [], h => by rw [fE] at h; cases h
 | [a], h => by rw [jE] at h; exact .inl ⟨a, .head _, h⟩
 | a :: b :: l, h => by
   rw [jA, qr, qr, mem_append, mem_append] at h
   rcases h with (h | h) | h
   ·exact .inl ⟨a, .head _, h⟩
   ·exact .inr h
   ·rcases yJ h with ⟨r, hr, hc⟩ | h
    ·exact .inl ⟨r, .tail _ hr, hc⟩
    ·exact .inr h
theorem gW : ∀ c ∈ qM.cps.toList, okC c = true := by decide +kernel
theorem Ei : ∀ c ∈ xW.cps.toList, okC c = true := by decide +kernel
theorem CW {l : List Str} (hl : l ≠ []) (h : ∀ r ∈ l, GR r) : GR (PW qM l) := by
 have hc : ∀ r ∈ l, qp r := fun r hr => (h r hr).cl
 refine ⟨km hc, ?_, fun s hs => ?_, fun c hcc => ?_⟩
 ·rw [Q9 hl hc]
  induction l using PD with
  | nil => exact absurd rfl hl
  | cons a l =>
    rw [Tt]
    intro e
    exact (h a (.head _)).ne (List.append_eq_nil_iff.mp e).1
 ·rw [Q9 hl hc, Uj] at hs
  obtain ⟨r, hr, hs⟩ := hs
  exact (h r hr).io s hs
 ·rcases yJ hcc with ⟨r, hr, hx⟩ | hx
  ·exact (h r hr).ch c hx
  ·exact gW c hx
theorem fz : jI PF = [Pv ""] := by decide +kernel
theorem jL : qp PF := ⟨rfl, rfl⟩
theorem V7 : xW = ch 44 ++ (ch 32 ++ (ch 44 ++ ch 9)) := by decide +kernel
theorem Vq {a b : Str} (ha : qp a) : jI (a ++ (xW ++ b)) = jI a ++ (Pv "" :: jI b) := by
 have e : a ++ (xW ++ b) = a ++ (ch 44 ++ (ch 32 ++ (PF ++ (ch 44 ++ (ch 9 ++ b))))) := by rw [V7, jP]; simp only [qh]
 rw [e, xg ha, wb rfl Ij, xg jL, wb rfl sp9, fz]
 rfl
theorem XB {a b : Str} (ha : qp a) (hb : qp b) : qp (a ++ (xW ++ b)) := by
 have e : a ++ (xW ++ b) = a ++ (ch 44 ++ (ch 32 ++ (PF ++ (ch 44 ++ (ch 9 ++ b))))) := by rw [V7, jP]; simp only [qh]
 rw [e]
 exact zr ha (xx rfl (zr jL (xx rfl hb)))
noncomputable def alt : List Str -> List Str
 | [] => []
 | [x] => [x]
 | x :: y :: l => x :: Pv "" :: alt (y :: l)
theorem fb {g : Str -> Str} : ∀ {l : List Str}, l ≠ [] -> (∀ r ∈ l, qp r /\ jI r = [g r]) -> jI (PW xW l) = alt (l.map g) /\ qp (PW xW l)
 | [], h, _ => absurd rfl h
 | [a], _, h => by
   rw [jE]
   exact ⟨(h a (.head _)).2, (h a (.head _)).1⟩
 | a :: b :: l, _, h => by
   obtain ⟨h1, h2⟩ := h a (.head _)
   obtain ⟨h3, h4⟩ := fb (l := b :: l) (by simp) fun r hr => h r (.tail _ hr)
   rw [jA, qh]
   refine ⟨?_, XB h1 h4⟩
   rw [Vq h1, h2, h3]
   rfl
theorem fM : ∀ {l : List Str}, (∀ x ∈ l, isE x = false) -> (alt l).filter (fun s => !(s == Pv "")) = l
 | [], _ => rfl
 | [x], h => by
   have hx : (x == Pv "") = false := h x (.head _)
   simp [alt, hx]
 | x :: y :: l, h => by
   have ih := fM (l := y :: l) fun z hz => h z (.tail _ hz)
   have hx : (x == Pv "") = false := h x (.head _)
   have h0 : (Pv "" == Pv "") = true := by simp
   unfold alt
   rw [filter_cons, filter_cons, hx, h0, ih]
   rfl
theorem WT : ∀ {l : List Str}, l ≠ [] -> (∀ x ∈ l, isE x = false) -> (alt l ++ [Pv ""]).map isE = (Rw l.length [false, true]).flatten
 | [], h, _ => absurd rfl h
 | [x], _, h => by
   have := h x (.head _)
   have h0 : isE (Pv "") = true := by decide +kernel
   simp [alt, this, h0]
 | x :: y :: l, _, h => by
   have ih := WT (l := y :: l) (by simp) fun z hz => h z (.tail _ hz)
   have hx := h x (.head _)
   have h0 : isE (Pv "") = true := by decide +kernel
   unfold alt
   rw [AW, AW, RO, RO, ih, hx, h0]
   rfl
theorem Jm (ws : List Str) : j9 ws = ch 32 ++ ((PW xW ws ++ ch 9) ++ (ch 44 ++ (PF ++ (ch 44 ++ PF)))) := by
 unfold j9
 have e1 : bl8 = ch 32 := by decide +kernel
 have e2 : FK = ch 9 ++ (ch 44 ++ ch 44) := by decide +kernel
 rw [e1, e2, jP, vo]
 simp only [qh]
theorem VS {a b : Str} (h : a.cps.toList.all zw = true) {x : Str} {t : List Str} (hb : raw (run b) = x :: t) : raw (run (a ++ b)) = (a ++ x) :: t := by
 rw [fJ h, hb]
theorem VP {g : Str -> Str} {ws : List Str} (hw : ws ≠ []) (h : ∀ r ∈ ws, qp r /\ jI r = [g r]) : qH (j9 ws) = alt (ws.map g) ++ [Pv ""] /\ its (j9 ws) = (alt (ws.map g)).filter (fun s => !(s == Pv "")) /\ qp (j9 ws) := by
 obtain ⟨hb, hc⟩ := fb hw h
 have hc9 : qp (PW xW ws ++ ch 9) := Xm rfl hc
 have hbits : jI (j9 ws) = alt (ws.map g) ++ [Pv "", Pv ""] := by
  rw [Jm, wb rfl Ij, xg hc9, VB hc rfl sp9, xg jL, fz, hb]
  rfl
 have hcw : qp (j9 ws) := by
  rw [Jm]
  exact xx rfl (zr hc9 (zr jL jL))
 have hp : (run (j9 ws)).p = PF := by
  have hr : ∃ l, raw (run (j9 ws)) = l ++ [PF] := by
   obtain ⟨x, t, hx⟩ := BI (s := run (PW xW ws ++ ch 9))
   have h2 : raw (run ((PW xW ws ++ ch 9) ++ (ch 44 ++ (PF ++ (ch 44 ++ PF))))) = (x :: t) ++ [PF, PF] := by
    rw [vE hc9, vE jL, hx]
    rfl
   rw [Jm]
   exact ⟨(ch 32 ++ x) :: (t ++ [PF]), by rw [VS (by decide) h2]; simp⟩
  obtain ⟨l, hl⟩ := hr
  unfold raw at hl
  exact (bF hl rfl).2 |> aK |>.1
 refine ⟨?_, ?_, hcw⟩
 ·have e1 : jI (j9 ws) = qH (j9 ws) ++ [Pv ""] := by
   unfold jI raw qH Kd
   rw [show xr m0 (j9 ws).cps.toList = run (j9 ws) from rfl, hp, if_pos (by decide), Rt]
   have : [PF].map RT = [Pv ""] := by decide +kernel
   rw [this]
  rw [hbits] at e1
  have : alt (ws.map g) ++ [Pv "", Pv ""] = (alt (ws.map g) ++ [Pv ""]) ++ [Pv ""] := by simp
  rw [this] at e1
  exact (bF e1 rfl).1.symm
 ·unfold its
  rw [hbits, SM]
  have : [Pv "", Pv ""].filter (fun s => !(s == Pv "")) = [] := by decide +kernel
  rw [this, PS]
def wq (x : Str) : Prop := x = AB \/ x = XM
theorem xP : ∀ x ∈ N4, Pt x = AB \/ Pt x = XM := by decide +kernel
theorem zJ : ∀ x ∈ N4, bad true x = false /\ x.length <= 1000 /\ (58 ∉ x.cps.toList /\ 13 ∉ x.cps.toList) /\ Sk x ∈ N4 /\ Pt (Sk x) = Pt x := by decide +kernel
theorem wk : ∀ x ∈ [AB, XM], bad true x = false /\ x.length <= 1000 /\ Pz x = true /\ Pt x = x /\ Pt (Tl x) = x /\ (Tl x).length <= 1000 := by decide +kernel
theorem gn {x : Str} (h : wq x) : x ∈ [AB, XM] := by rcases h with rfl | rfl <;> simp
structure jm (rows : Ps) (pa pb : Loc) : Prop where
 nm : ∀ kv ∈ rows, kv.1 ∈ N4 /\ GR kv.2
 pg : ∀ x, wq x -> ((q7 rows x).flatMap its).map ent = qv pa pb x
 bd : ∀ x, wq x -> ((q7 rows x).map fun r => r.length + 2).sum <= 100 * (qv pa pb x).length
theorem Y1 {rows : Ps} {x r : Str} (h : r ∈ q7 rows x) : ∃ kv ∈ rows, kv.2 = r /\ Pt kv.1 = x := by
 obtain ⟨kv, hkv, rfl⟩ := Ri.mp h
 obtain ⟨h1, h2⟩ := RM.mp hkv
 exact ⟨kv, h1, rfl, eq_of_beq h2⟩
theorem jm.gr {rows : Ps} {pa pb : Loc} (v : jm rows pa pb) {x r : Str} (h : r ∈ q7 rows x) : GR r := by
 obtain ⟨kv, hkv, rfl, _⟩ := Y1 h
 exact (v.nm kv hkv).2
theorem KL {l : List Str} (h : ∀ r ∈ l, its r ≠ []) : l.length <= (l.flatMap its).length := by
 induction l with
 | nil => simp
 | cons a l ih =>
   have h1 := ih fun r hr => h r (.tail _ hr)
   have h2 : (its a).length ≠ 0 := by have := h a (.head _); simpa using this
   rw [Tt, PB, SX]
   lia
theorem jm.cnt {rows : Ps} {pa pb : Loc} (v : jm rows pa pb) {x : Str} (hx : wq x) : (q7 rows x).length <= (qv pa pb x).length := by
 have h := KL (l := q7 rows x) fun r hr => (v.gr hr).ne
 have e := congrArg Sp (v.pg x hx)
 rw [PJ] at e
 lia
theorem Ki {rows : Ps} (h : ∀ kv ∈ rows, kv.1 ∈ N4) : rows.length <= (q7 rows AB).length + (q7 rows XM).length := by
 induction rows with
 | nil => simp
 | cons kv l ih =>
   have h1 := ih fun r hr => h r (.tail _ hr)
   unfold q7 at *
   simp only [filter_cons, PJ] at *
   rcases xP _ (h kv (.head _)) with e | e
   ·rw [e, show (AB == AB) = true by simp, show (AB == XM) = false by decide +kernel]
    simp only [if_true, R7, if_false, SX]
    lia
   ·rw [e, show (XM == XM) = true by simp, show (XM == AB) = false by decide +kernel]
    simp only [if_true, R7, if_false, SX]
    lia
theorem jm.len {rows : Ps} {pa pb : Loc} (v : jm rows pa pb) : rows.length <= pa.length + pb.length := by
 have h1 := Ki fun kv hk => (v.nm kv hk).1
 have h2 := v.cnt (x := AB) (.inl rfl)
 have h3 := v.cnt (x := XM) (.inr rfl)
 have hne := X7
 unfold qv at h2 h3
 rw [if_pos rfl] at h2
 rw [if_neg hne] at h3
 lia
theorem Hw {l : List Str} {r : Str} (h : r ∈ l) : r.length + 2 <= (l.map fun r => r.length + 2).sum := by
 induction l with
 | nil => cases h
 | cons a l ih =>
   rw [RO, TU]
   rcases Rq.mp h with rfl | h
   ·lia
   ·have := ih h; lia
theorem gq (l : List Str) : (l.map (·.length)).sum + l.length * 2 = (l.map fun r => r.length + 2).sum := by
 induction l with
 | nil => rfl
 | cons a l ih =>
   simp only [RO, TU, SX] at ih ⊢
   lia
theorem wY {pa pb : Loc} {n : Nat} (ha : pa.length <= n) (hb : pb.length <= n) (x : Str) : (qv pa pb x).length <= n := by
 unfold qv; split <;> assumption
theorem Yg {y s : Str} (h : s ∈ qH y) : s ∈ jI y := by
 unfold qH Kd at h
 unfold jI raw run
 split at h
 ·rw [Rt]; exact Ro _ h
 ·exact h
theorem PI.run : ∀ {cs : List Nat} {s : PM'} {i : Nat}, PI s i -> PI (xr s cs) (i + cs.length)
 | [], _, _, h => h
 | c :: cs, s, i, h => by
   have := PI.run (cs := cs) (h.step (c := c))
   rwa [A5, UB 1] at this
theorem J0 (y : Str) : (qH y).length <= y.length + 1 := by
 have h := (PI.run (cs := y.cps.toList) (s := m0) (i := 0) ⟨PK 0, PK 0, fun zz h => nomatch h⟩).l
 rw [Nat.zero_add, zj] at h
 unfold qH Kd
 rw [PJ]
 split
 ·exact Ru h
 ·rw [PB]
  exact Rb h
theorem vG : qM.length = 2 := by decide +kernel
theorem Yz {x : Str} (h : wq (Pt x)) : KeyOK x := by
 obtain ⟨f1, f2, f3, _⟩ := wk _ (gn h)
 exact ⟨Pq f2 (by decide), f3⟩
theorem Gu {x : Str} (h : wq (Pt x)) : kW x := ⟨Yz h, (wk _ (gn h)).1⟩
theorem jm.rd {rows : Ps} {pa pb : Loc} (v : jm rows pa pb) (ha : pa.length <= 20) (hb : pb.length <= 20) {x : Str} (hx : wq (Pt x)) : JP rows x := by
 have e24 : Pr = 16777216 := by decide
 obtain ⟨f1, f2, f3, _⟩ := wk _ (gn hx)
 have hpl := wY ha hb (Pt x)
 have hbd := v.bd _ hx
 have hst := gq (q7 rows (Pt x))
 have hjl := yW (sep := qM) (l := q7 rows (Pt x))
 rw [vG] at hjl
 have hcl : ∀ r ∈ q7 rows (Pt x), qp r := fun r hr => (v.gr hr).cl
 have hchr : ∀ c ∈ (PW qM (q7 rows (Pt x))).cps.toList, okC c = true := by
  intro c hc
  rcases yJ hc with ⟨r, hr, h⟩ | h
  ·exact (v.gr hr).ch c h
  ·exact gW c h
 have hlen := v.len
 have hit : ∀ s ∈ qz (q7 rows (Pt x)), IOK s /\ Pz s = true /\ InE (ent s) := by
  intro s hs
  rw [wH hcl, Uj] at hs
  obtain ⟨r, hr, hs⟩ := hs
  exact (v.gr hr).io s hs
 refine ⟨Gu hx, by lia, fun kv hk => Yz (xP _ (v.nm kv hk).1), ⟨yB (by rw [vG]; lia), fun c hc => Zi (hchr c hc), by lia, ?_, fun s hs => ?_⟩, fun s hs => (hit s hs).1, ?_⟩
 ·have := J0 (PW qM (q7 rows (Pt x)))
  lia
 ·by_cases he : (s == Pv "") = true
  ·rw [eq_of_beq he]; exact Ct
  ·have hm : s ∈ qz (q7 rows (Pt x)) := by
    unfold qz
    rw [RM]
    exact ⟨hs, by simpa using he⟩
   exact (hit s hm).2.1
 ·rw [wH hcl]
  have e := congrArg Sp (v.pg _ hx)
  rw [PJ] at e
  lia
theorem jm.items {rows : Ps} {pa pb : Loc} (v : jm rows pa pb) {x : Str} (hx : wq x) : (qz (q7 rows x)).map ent = qv pa pb x := by
 rw [wH fun r hr => (v.gr hr).cl]
 exact v.pg x hx
theorem jm.ine {rows : Ps} {pa pb : Loc} (v : jm rows pa pb) {x : Str} (hx : wq x) : ∀ e ∈ qv pa pb x, InE e := by
 intro e he
 rw [<- v.pg x hx] at he
 obtain ⟨s, hs, rfl⟩ := Ri.mp he
 rw [Uj] at hs
 obtain ⟨r, hr, hs⟩ := hs
 exact ((v.gr hr).io s hs).2.2
theorem jm.fst {rows : Ps} {pa pb : Loc} (v : jm rows pa pb) {x : Str} (hx : wq x) : (first rows x = none ↔ qv pa pb x = []) /\ (q7 rows x = [] ↔ qv pa pb x = []) := by
 have h2 : q7 rows x = [] ↔ qv pa pb x = [] := by
  constructor
  ·intro h
   rw [<- v.pg x hx, h]; rfl
  ·intro h
   have := v.cnt hx
   rw [h] at this
   simpa using this
 refine ⟨?_, h2⟩
 rw [yg, List.head?_eq_none_iff]
 exact h2
theorem jH (a b : Ps) (x : Str) : q7 (a ++ b) x = q7 a x ++ q7 b x := by
 unfold q7; rw [SM, Rt]
theorem kg {nm x : Str} (h : Pt nm = x) (l : List Str) : q7 (l.map fun r => (nm, r)) x = l := by
 unfold q7
 rw [ax.mpr, Su]
 ·simp [Function.comp_def]
 ·intro kv hk
  obtain ⟨r, _, rfl⟩ := Ri.mp hk
  simp [h]
theorem J5 {nm x : Str} (h : Pt nm ≠ x) (l : List Str) : q7 (l.map fun r => (nm, r)) x = [] := by
 unfold q7
 rw [T4, Aq]
 intro kv hk
 obtain ⟨r, _, rfl⟩ := Ri.mp hk
 simpa using h
theorem zK (rows : Ps) (x : Str) : q7 (qd rows x) x = [] := by
 unfold q7 qd
 rw [T4, aY, Aq]
 intro kv _
 cases (Pt kv.1 == x) <;> simp
theorem xk {rows : Ps} {x y : Str} (h : y ≠ x) : q7 (qd rows x) y = q7 rows y := by
 unfold q7 qd
 rw [aY]
 congr 1
 apply UX
 intro kv _
 by_cases e : Pt kv.1 = y
 ·have : (Pt kv.1 == x) = false := by rw [beq_eq_false_iff_ne, e]; exact h
  rw [this]; simp
 ·have : (Pt kv.1 == y) = false := by rw [beq_eq_false_iff_ne]; exact e
  rw [this]; rfl
theorem wW {nm x r : Str} (h : Pt nm = x) : q7 [(nm, r)] x = [r] := kg h [r]
theorem wy {nm x r : Str} (h : Pt nm ≠ x) : q7 [(nm, r)] x = [] := J5 h [r]
theorem wS {rows : Ps} {nm r : Str} : q7 (put rows nm r) (Pt nm) = [r] := by
 unfold put
 rw [jH, zK, wW rfl]
 rfl
theorem Qe {rows : Ps} {nm r y : Str} (h : y ≠ Pt nm) : q7 (put rows nm r) y = q7 rows y := by
 unfold put
 rw [jH, xk h, wy (SO h), PS]
theorem va {rows : Ps} {x : Str} {kv : Str × Str} (h : kv ∈ qd rows x) : kv ∈ rows := (RM.mp h).1
theorem Y5 {rows : Ps} (h : ∀ kv ∈ rows, kv.1 ∈ N4) (x : Str) : q7 (rows.map swp) x = q7 rows x := by
 unfold q7
 rw [bP, Su]
 have e : (fun x : Str × Str => x.2) ∘ swp = fun x => x.2 := rfl
 rw [e]
 congr 1
 apply UX
 intro kv hk
 have := (zJ _ (h kv hk)).2.2.2.2
 simp only [Function.comp, swp, this]
theorem BC {pa pb new : Loc} {x : Str} (hx : wq x) : qv (if x = AB then new else pa) (if x = AB then pb else new) x = new /\ ∀ y, wq y -> y ≠ x -> qv (if x = AB then new else pa) (if x = AB then pb else new) y = qv pa pb y := by
 have hne := X7
 unfold qv
 rcases hx with rfl | rfl
 ·refine ⟨by simp, fun y hy h => ?_⟩
  rcases hy with rfl | rfl
  ·exact absurd rfl h
  ·simp [hne]
 ·refine ⟨by simp [hne], fun y hy h => ?_⟩
  rcases hy with rfl | rfl
  ·simp [hne]
  ·exact absurd rfl h
theorem jm.upd {rows rows' : Ps} {pa pb new : Loc} {x : Str} (v : jm rows pa pb) (hx : wq x) (hn : ∀ kv ∈ rows', kv.1 ∈ N4 /\ GR kv.2) (ho : ∀ y, y ≠ x -> q7 rows' y = q7 rows y) (hp : ((q7 rows' x).flatMap its).map ent = new) (hb : ((q7 rows' x).map fun r => r.length + 2).sum <= 100 * new.length) :
 jm rows' (if x = AB then new else pa) (if x = AB then pb else new) := by
 obtain ⟨q1, q2⟩ := BC (pa := pa) (pb := pb) (new := new) hx
 refine ⟨hn, fun y hy => ?_, fun y hy => ?_⟩
 ·by_cases h : y = x
  ·subst h; rw [q1]; exact hp
  ·rw [q2 y hy h, ho y h]; exact v.pg y hy
 ·by_cases h : y = x
  ·subst h; rw [q1]; exact hb
  ·rw [q2 y hy h, ho y h]; exact v.bd y hy
theorem jm.same {rows : Ps} {pa pb : Loc} {x : Str} (v : jm rows pa pb) (hx : wq x) : jm rows (if x = AB then qv pa pb x else pa) (if x = AB then pb else qv pa pb x) :=
 v.upd hx v.nm (fun zz zz => rfl) (v.pg x hx) (v.bd x hx)
theorem JT {r : Str} (h : ∀ c ∈ r.cps.toList, okC c = true) : bad false r = false := by
 unfold bad
 rw [if_neg (by decide), bj]
 intro c hc
 have := h c hc
 unfold okC at this
 simp only [Rl, S8] at this
 rw [this.2]
 decide
theorem WJ {r : Str} (h : ∀ c ∈ r.cps.toList, okC c = true) : Pz r = true := (we r).mpr fun c hc => Zi (h c hc)
theorem gl (a b : Str) : bad false (a ++ b) = (bad false a || bad false b) := by
 unfold bad
 simp only [R7, if_false, qr, bQ]
structure zc (s : St) : Prop where
 nm : s.name ∈ N4
 ky : s.key ∈ K3
 tx : s.text ∈ TXT
 rw : s.quote = 2 -> s.text ∈ RAW
 q3 : s.quote < 3
 kd : s.kind < 10
theorem Oa (x : Nat) : zc (ye x) := by
 have b1 : x / 10 % 4 < N4.length := by rw [show N4.length = 4 by decide +kernel]; lia
 have b2 : x / 40 % 3 < K3.length := by rw [show K3.length = 3 by decide +kernel]; lia
 obtain ⟨h1, h2⟩ := K4 x
 exact ⟨xV b1, xV b2, h1, h2, by show x / 38400 % 3 < 3; lia, by show x % 10 < 10; lia⟩
theorem BV {k : Str} (h : k ∈ K3) : k ∈ K6 /\ zed ++ k ∈ K6 := ⟨Ro _ h, Ra _ (Ri.mpr ⟨k, h, rfl⟩)⟩
theorem Xj : ∀ k ∈ K3, (yi.contains (dsh k) = true /\ bad true (dsh k) = false /\ (dsh k).length <= 1000 /\ (usc (dsh k)).length <= 1000) /\ k.length <= 100 /\ usc (dsh k) = k /\ bad false k = false /\ Pz k = true := by decide +kernel
theorem TxF.ws {t : Str} (f : TxF t) : WS' t := ⟨f.so, Pq f.ln (by decide), Pq f.el (by decide), Pq f.rl (by decide)⟩
theorem zc.stf {s : St} (f : zc s) : StF s := by
 obtain ⟨⟨a1, a2, a3, a4⟩, a5, a6, _⟩ := Xj _ f.ky
 have t := txF f.tx
 exact ⟨(zJ _ f.nm).1, ⟨a1, a2, a3, a4⟩, a5, a6, Pq t.ln (by decide), t.ws⟩
theorem jm.tn {rows : Ps} {pa pb : Loc} (v : jm rows pa pb) (ha : pa.length <= 20) (hb : pb.length <= 20) {x : Str} (hx : x ∈ N4) : TN rows x :=
 ⟨Gu (xP _ hx), (zJ _ hx).1, Pq v.len (Pq (RP ha hb) (by decide)), fun kv hk => Yz (xP _ (v.nm kv hk).1)⟩
theorem zc.two {s : St} (f : zc s) : wq (Pt s.name) := xP _ f.nm
theorem Bw : bad false EQ = false /\ bad false QT = false /\ Pz EQ = true /\ Pz QT = true := by decide +kernel
theorem wO {t : Str} (h : t.length = 0) : gd t = true := by
 have : t = PF := jU (List.length_eq_zero_iff.mp (zj.trans h))
 rw [this]; decide +kernel
section
variable {k t : Str} {q : Int}
theorem Yt {x : Str} {b : Bool} (hk : bad false k = false /\ Pz k = true) (hx : bad false x = b /\ Pz x = true) : bad false (k ++ (EQ ++ x)) = b /\ Pz (k ++ (EQ ++ x)) = true := by
 obtain ⟨e1, _, e3, _⟩ := Bw
 refine ⟨?_, xa hk.2 (xa e3 hx.2)⟩
 rw [gl, gl, hk.1, e1, hx.1]; rfl
theorem IJ {x : Str} {b : Bool} (hx : bad false x = b /\ Pz x = true) : bad false (quo x) = b /\ Pz (quo x) = true := by
 obtain ⟨_, e2, _, e4⟩ := Bw
 refine ⟨?_, xa e4 (xa hx.2 e4)⟩
 unfold quo
 rw [gl, gl, e2, hx.1, Bool.false_or, A1]
set_option tactic.hygienic true in
theorem HZ (hk : bad false k = false /\ Pz k = true) (f : TxF t) : bad false (fmt k t q) = !gd t /\ Pz (fmt k t q) = true := by
 unfold fmt
 split
 ·rename_i h
  rw [wO h]; exact hk
 ·split
  ·rw [gg]; exact Yt hk (IJ ⟨f.be, f.eo⟩)
  ·rw [WW]; exact Yt hk ⟨f.bt, f.so⟩
set_option tactic.hygienic true in
theorem OB (hk : bad false k = false /\ Pz k = true) (f : TxF t) : bad false (wr k (.str t) 2) = !gd t /\ Pz (wr k (.str t) 2) = true := by
 have e : wr k (.str t) 2 = k ++ (EQ ++ (if t.length = 0 then Pv "\"\"" else t)) := by
  show k ++ EQ ++ (if t.length = 0 then Pv "\"\"" else t) = _
  rw [qh]
 rw [e]
 refine Yt hk ?_
 split
 ·rename_i h
  rw [wO h]; exact ⟨by decide +kernel, by decide +kernel⟩
 ·exact ⟨f.bt, f.so⟩
end
theorem zc.bw {s : St} (f : zc s) : bad false s.w = !gd s.text /\ Pz s.w = true := by
 obtain ⟨_, _, _, kb, ko⟩ := Xj _ f.ky
 have t := txF f.tx
 by_cases h2 : (s.quote : Int) = 2
 ·unfold St.w
  rw [h2]
  exact OB ⟨kb, ko⟩ t
 ·unfold St.w
  rw [Fl h2 (fun h3 => absurd (T3 h3 : s.quote = 3) (RQ f.q3))]
  exact HZ ⟨kb, ko⟩ t
theorem J8 {sep : Str} : ∀ {l : List Str}, l ≠ [] -> (PW sep l).length + sep.length <= (l.map (·.length)).sum + l.length * sep.length
 | [], h => absurd rfl h
 | [a], _ => by rw [jE]; simp
 | a :: b :: l, _ => by
   have ih := J8 (sep := sep) (l := b :: l) (by simp)
   rw [jA, PN, PN]
   simp only [RO, TU, SX, Nat.succ_mul] at ih ⊢
   lia
abbrev jl := Loc × Loc × List jG
noncomputable def jl.pg (q : jl) (s : St) : Loc := qv q.1 q.2.1 (Pt s.name)
noncomputable def Q7 (q : jl) (s : St) (new : Loc) : Loc := if Pt s.name = AB then new else q.1
noncomputable def gX (q : jl) (s : St) (new : Loc) : Loc := if Pt s.name = AB then q.2.1 else new
noncomputable def Bn (q : jl) (s : St) : jl := (Q7 q s (zm s (q.pg s)), gX q s (zm s (q.pg s)), q.2.2 ++ xG s (q.pg s))
structure BL (q : jl) (n : Nat) : Prop where
 la : q.1.length <= n
 lb : q.2.1.length <= n
 ln : q.2.2.length <= n
theorem BN {k : Nat} {page fresh thin : Loc} (h1 : fresh.length <= 1) (h2 : thin.length = page.length) : (kM k page fresh thin).length <= page.length + 1 := by
 have h3 : fresh.length <= page.length + 1 := Pq h1 (Uu ..)
 have h4 : page.length <= page.length + 1 := U5 _
 unfold kM
 split
 ·rw [PB]; exact So h1 _
 ·split
  ·exact h3
  ·split
   ·split
    ·exact h3
    ·exact h4
   ·split
    ·exact Rj _
    ·split
     ·rw [h2]; exact h4
     ·exact h4
theorem CP (s : St) : (qO s).length <= 1 := by
 unfold qO; split
 ·exact PK 1
 ·exact Rj _
theorem Kr (s : St) (page : Loc) : (zm s page).length <= page.length + 1 := BN (CP s) (PJ ..)
theorem G2 (s : St) (page : Loc) : (xG s page).length <= 1 := by
 unfold xG
 split
 ·decide
 ·split
  ·decide
  ·split
   ·exact PK 1
   ·split <;> exact PK 1
theorem BL.step {q : jl} {n : Nat} (b : BL q n) (s : St) : BL (Bn q s) (n + 1) := by
 have h := Pq (Kr s (q.pg s)) (Rb (wY b.la b.lb (Pt s.name)))
 refine ⟨?_, ?_, ?_⟩
 ·show (Q7 q s _).length <= _
  unfold Q7; split
  ·exact h
  ·exact Ru b.la
 ·show (gX q s _).length <= _
  unfold gX; split
  ·exact Ru b.lb
  ·exact h
 ·show (q.2.2 ++ _).length <= _
  rw [PB]
  exact RP b.ln (G2 s _)
structure PG (q : jl) (n : Nat) (rows : Ps) (ns : List jG) : Prop where
 v : jm rows q.1 q.2.1
 e : ns = q.2.2
 l : BL q n
def yM (n P k : Nat) (μ0 μ : q4) (T N : Nat) (q : jl) (s : St) : Prop := ∃ rows' ns', wt n P μ0 μ T N s rows' ns' /\ PG (Bn q s) (k + 1) rows' ns'
structure qQ (k : Nat) (μ0 μ : q4) (T d H N : Nat) (rows : Ps) (zs : ZL) (q : jl) (s : St) : Prop where
 p : PG q k rows (zs.map Rh)
 k : k <= 15
 pi : xl μ0 μ T d H N rows zs
 f : zc s
section
variable {n P k T d H N : Nat} {μ0 μ : q4} {rows rows' : Ps} {zs : ZL} {q : jl} {s : St} {ns' : List jG} {new : Loc} {nt : List jG}
theorem qQ.a (h : qQ k μ0 μ T d H N rows zs q s) : q.1.length <= 20 := Pq h.p.l.la (Pq h.k (by decide))
theorem qQ.b (h : qQ k μ0 μ T d H N rows zs q s) : q.2.1.length <= 20 := Pq h.p.l.lb (Pq h.k (by decide))
theorem qQ.rl (h : qQ k μ0 μ T d H N rows zs q s) : rows.length <= 40 := Pq h.p.v.len (RP h.a h.b)
theorem qQ.rl' (h : qQ k μ0 μ T d H N rows zs q s) : rows.length <= 1000 := Pq h.rl (by decide)
theorem qQ.zl (h : qQ k μ0 μ T d H N rows zs q s) : zs.length <= 1000 := by
 have e := congrArg Sp h.p.e
 rw [PJ] at e
 rw [e]
 exact Pq h.p.l.ln (Pq h.k (by decide))
theorem qQ.rd (h : qQ k μ0 μ T d H N rows zs q s) : JP rows s.name := h.p.v.rd h.a h.b h.f.two
theorem qQ.tn (h : qQ k μ0 μ T d H N rows zs q s) : TN rows s.name := h.p.v.tn h.a h.b h.f.nm
theorem qQ.pl (h : qQ k μ0 μ T d H N rows zs q s) : (q.pg s).length <= 15 := wY (Pq h.p.l.la h.k) (Pq h.p.l.lb h.k) _
theorem qQ.ine (h : qQ k μ0 μ T d H N rows zs q s) : ∀ e ∈ q.pg s, InE e := h.p.v.ine h.f.two
theorem qQ.fin (h : qQ k μ0 μ T d H N rows zs q s) (hd : wt n P μ0 μ T N s rows' (zs.map Rh ++ nt)) (h1 : zm s (q.pg s) = new) (h2 : xG s (q.pg s) = nt) (hv : jm rows' (Q7 q s new) (gX q s new)) : yM n P k μ0 μ T N q s := by
 subst h1
 subst h2
 exact ⟨_, _, hd, hv, by rw [h.p.e]; rfl, h.p.l.step s⟩
end
theorem M9 {k t z : Str} : z ++ fmt k t 1 = fmt (z ++ k) t 1 := by
 unfold fmt
 split
 ·rfl
 ·rw [if_pos (.inl (by decide)), if_pos (.inl (by decide)), gg, gg, qh]
theorem vX {s : St} (hg : gd s.text = false) : qO s = [] := if_neg (by rw [hg]; decide)
theorem Dv {s : St} {z : Bool} (f : zc s) (hk : s.kind = zk z) (hg : gd s.text = true) : qO s = [(zp z ++ s.key, back s.text 1)] /\ zb (zp z ++ fmt s.key s.text 1) (zp z ++ s.key, back s.text 1) /\ InE (zp z ++ s.key, back s.text 1) := by
 obtain ⟨k1, k2⟩ := BV f.ky
 have hm : zp z ++ s.key ∈ K6 := by
  cases z
  ·rw [show zp false ++ s.key = s.key from jP _]; exact k1
  ·exact k2
 refine ⟨?_, ?_, hm, vx f.tx hg 1⟩
 ·unfold qO
  rw [if_pos hg, hk]
  cases z
  ·rw [show zp false ++ s.key = s.key from jP _]; rfl
  ·rfl
 ·rw [M9]
  exact ga hm f.tx hg (.inr rfl)
theorem WC {s : St} (f : zc s) (h1 : s.kind ≠ 1) (h2 : ¬ s.kind < 2) (hg : gd s.text = true) : qO s = [(s.key, back s.text s.quote)] /\ zb s.w (s.key, back s.text s.quote) /\ InE (s.key, back s.text s.quote) := by
 obtain ⟨k1, _⟩ := BV f.ky
 refine ⟨?_, ?_, k1, vx f.tx hg _⟩
 ·unfold qO
  rw [if_pos hg, if_neg h1, if_neg h2]
 ·unfold St.w
  by_cases h : s.quote = 2
  ·rw [h, show back s.text (2 : Nat) = .str s.text from if_pos rfl]
   exact Hd k1 (f.rw h)
  ·have h3 := f.q3
   rw [Fl (by lia) (by lia)]
   exact ga k1 f.tx hg (by lia)
theorem jm.add {rows : Ps} {q : jl} {s : St} {r : Str} {e : Str × PV} (v : jm rows q.1 q.2.1) (f : zc s) (hr : zb r e) (he : InE e) : jm (rows ++ [(s.name, r)]) (Q7 q s (q.pg s ++ [e])) (gX q s (q.pg s ++ [e])) := by
 obtain ⟨x, h1, h2, h3, h4⟩ := hr.it
 refine v.upd f.two (fun kv hk => ?_) (fun y hy => ?_) ?_ ?_
 ·rcases PU.mp hk with h | h
  ·exact v.nm kv h
  ·rw [Pw.mp h]; exact ⟨f.nm, hr.gr he⟩
 ·rw [jH, wy (SO hy), PS]
 ·rw [jH, wW rfl, List.flatMap_append, Rt, v.pg _ f.two, Tt, h2, <- h4]; rfl
 ·rw [jH, wW rfl, Rt, bO, PB, Nat.mul_add]
  exact RP (v.bd _ f.two) (Pq (RX hr.ln 2) (show 60 + 2 <= 100 * 1 by decide))
theorem jm.one {rows : Ps} {q : jl} {s : St} {new : Loc} {r : Str} (v : jm rows q.1 q.2.1) (f : zc s) (hr : GR r) (he : (its r).map ent = new) (hl : r.length + 2 <= 100 * new.length) : jm (put rows s.name r) (Q7 q s new) (gX q s new) := by
 refine v.upd f.two (fun kv hk => ?_) (fun y hy => Qe hy) ?_ ?_
 ·rcases PU.mp hk with h | h
  ·exact v.nm kv (va h)
  ·rw [Pw.mp h]; exact ⟨f.nm, hr⟩
 ·rw [wS, Tt, List.flatMap_nil, PS, he]
 ·rw [wS]; exact hl
theorem jm.drop {rows : Ps} {q : jl} {s : St} (v : jm rows q.1 q.2.1) (f : zc s) : jm (qd rows (Pt s.name)) (Q7 q s []) (gX q s []) :=
 v.upd f.two (fun kv hk => v.nm kv (va hk)) (fun y hy => xk hy) (by rw [zK]; rfl) (by rw [zK]; exact PK 0)
theorem jm.sam {rows : Ps} {q : jl} {s : St} (v : jm rows q.1 q.2.1) (f : zc s) : jm rows (Q7 q s (q.pg s)) (gX q s (q.pg s)) := v.same f.two
theorem swF {s : St} (f : zc s) : SwF s := by
 obtain ⟨_, _, _, h4, h5⟩ := zJ _ f.nm
 exact ⟨h5, Pq (zJ _ h4).2.1 (by decide)⟩
section
variable {n P k T d H N : Nat} {μ0 μ : q4} {rows rows' : Ps} {zs : ZL} {q : jl} {s : St} {page : Loc} {z : Bool}
theorem ET (h : s.kind < 2) : zm s page = page ++ qO s := if_pos h
theorem O7 (h : s.kind = 2) : zm s page = qO s := by unfold zm kM; rw [h]; rfl
theorem HE (h : s.kind = 3) : zm s page = if page = [] then qO s else page := by unfold zm kM; rw [h]; rfl
theorem ON (h : s.kind = 4) : zm s page = [] := by unfold zm kM; rw [h]; rfl
theorem He (h : s.kind = 6 \/ s.kind = 7) : zm s page = xJ s page := by unfold zm kM; rcases h with h | h <;> (rw [h]; rfl)
theorem Jr (h : s.kind = 5 \/ s.kind = 8 \/ s.kind = 9) : zm s page = page := by unfold zm kM; rcases h with h | h | h <;> (rw [h]; rfl)
theorem Je (h : s.kind < 4) (hg : gd s.text = false) (h3 : s.kind < 3 \/ page = []) : xG s page = [.ctl] := if_pos ⟨h, hg, h3⟩
theorem MV (h : s.kind < 2) (hg : gd s.text = true) : xG s page = [.no] := by
 unfold xG
 rw [if_neg (fun e => absurd (hg.symm.trans e.2.1) (by decide)), if_neg (by lia), if_neg (by lia), if_neg (by lia)]
theorem NE (h : s.kind = 2) (hg : gd s.text = true) : xG s page = [] := by
 unfold xG
 rw [if_neg (fun e => absurd (hg.symm.trans e.2.1) (by decide)), if_pos (.inl h)]
theorem Ol (h : s.kind = 4) : xG s page = [] := by unfold xG; rw [h]; rfl
theorem Hg (h : s.kind = 3) (hg : gd s.text = true \/ page ≠ []) : xG s page = [.yes true] := by
 unfold xG
 rw [if_neg (fun e => hg.elim (fun g => absurd (g.symm.trans e.2.1) (by decide)) (fun g => e.2.2.elim (fun q => absurd (h ▸ q : 3 < 3) (by decide)) g)), h]; rfl
theorem EC (h : s.kind = 8) : xG s page = [.lst (Rw page.length [false, true]).flatten] := by unfold xG; rw [h]; rfl
theorem Zh (h : s.kind = 5 \/ s.kind = 6 \/ s.kind = 7 \/ s.kind = 9) : xG s page = [.no] := by unfold xG; rcases h with h | h | h | h <;> (rw [h]; rfl)
theorem FH (h : qQ k μ0 μ T d H N rows zs q s) (hk : s.kind = zk z) : yM n P k μ0 μ T N q s := by
 have hlt : s.kind < 2 := by rw [hk]; induction z <;> decide
 have hb := (txF h.f.tx).bt
 have hd : wt n P μ0 μ T N s (if bad false s.text = true then rows else rows ++ [(s.name, zp z ++ fmt s.key s.text 1)]) (zs.map Rh ++ [if bad false s.text = true then .ctl else .no]) := by
  by_cases h0 : s.text.length = 0
  ·have e := OM (n := n) (P := P) h.pi h.f.stf hk h.rl' h.zl h0
   rw [hb, wO h0, show fmt s.key s.text 1 = s.key from if_pos h0]
   exact e
  ·exact OJ h.pi h.f.stf hk h.rl' h.zl h0
 rw [hb] at hd
 induction hg : gd s.text with
 | false =>
   rw [hg] at hd
   exact h.fin hd ((ET hlt).trans ((congrArg _ (vX hg)).trans (PS _))) (Je (PZ hlt (show 2 <= 4 by decide)) hg (.inl (PZ hlt (show 2 <= 3 by decide)))) (h.p.v.sam h.f)
 | true =>
   rw [hg] at hd
   obtain ⟨g1, g2, g3⟩ := Dv h.f hk hg
   exact h.fin hd ((ET hlt).trans (congrArg _ g1)) (MV hlt hg) (h.p.v.add h.f g2 g3)
theorem NZ (h : qQ k μ0 μ T d H N rows zs q s) (hk : s.kind = 2) : yM n P k μ0 μ T N q s := by
 have hd := t2 (n := n) (P := P) h.pi h.f.stf h.tn hk h.zl
 rw [h.f.bw.1] at hd
 cases hg : gd s.text with
 | false =>
   rw [hg] at hd
   exact h.fin hd ((O7 hk).trans (vX hg)) (Je (by rw [hk]; decide) hg (.inl (by rw [hk]; decide))) (h.p.v.drop h.f)
 | true =>
   rw [hg] at hd
   obtain ⟨g1, g2, g3⟩ := WC h.f (by rw [hk]; decide) (by rw [hk]; decide) hg
   obtain ⟨s', e1, e2, e3, e4⟩ := g2.it
   exact h.fin hd ((O7 hk).trans g1) (NE hk hg) (h.p.v.one h.f (g2.gr g3) (by rw [e2, <- e4]; rfl) (Pq (RX g2.ln 2) (show 60 + 2 <= 100 * 1 by decide)))
theorem NN (h : qQ k μ0 μ T d H N rows zs q s) (hk : s.kind = 3) : yM n P k μ0 μ T N q s := by
 have hfst := (h.p.v.fst h.f.two).2
 obtain ⟨hb, hwo⟩ := h.f.bw
 induction hr : q7 rows (Pt s.name) using PD with
 | cons r tl =>
   have he : q.pg s ≠ [] := fun e => by rw [hfst.mpr e] at hr; cases hr
   have hd := t3s (n := n) (P := P) h.pi h.f.stf h.tn (swF h.f) hk h.zl hr (WJ (h.p.v.gr (x := Pt s.name) (by rw [hr]; exact .head _)).ch)
   exact h.fin hd ((HE hk).trans (if_neg he)) (Hg hk (.inr he)) (h.p.v.sam h.f)
 | nil =>
   have he : q.pg s = [] := hfst.mp hr
   have h' : TN (rows ++ [(s.name, s.w)]) s.name := ⟨h.tn.n, h.tn.b, by rw [PB]; exact Pq (RX h.rl' 1) (by decide), fun kv hkv => (PU.mp hkv).elim (h.tn.k kv) fun hm => by rw [Pw.mp hm]; exact h.tn.n.toKeyOK⟩
   have hd := t3n (n := n) (P := P) h.pi h.f.stf h.tn h' (swF h.f) hk h.zl hr hwo
   rw [hb] at hd
   induction hg : gd s.text with
   | false =>
     rw [hg] at hd
     have hv := h.p.v.sam h.f
     rw [he] at hv
     exact h.fin hd ((HE hk).trans ((if_pos he).trans (vX hg))) (Je (by rw [hk]; decide) hg (.inr he)) hv
   | true =>
     rw [hg] at hd
     obtain ⟨g1, g2, g3⟩ := WC h.f (by rw [hk]; decide) (by rw [hk]; decide) hg
     have hv := h.p.v.add h.f g2 g3
     rw [he] at hv
     exact h.fin hd ((HE hk).trans ((if_pos he).trans g1)) (Hg hk (.inl hg)) hv
theorem MC (h : qQ k μ0 μ T d H N rows zs q s) (hk : s.kind = 4) : yM n P k μ0 μ T N q s := by
 have hd := t4 (n := n) (P := P) h.pi h.tn hk
 rw [<- PS (zs.map Rh)] at hd
 exact h.fin hd (ON hk) (Ol hk) (h.p.v.drop h.f)
end
theorem Do {p : PV} (h : InT p) : WOK p := by
 rcases h with rfl | rfl | ⟨t, ht, _, rfl⟩
 ·exact .inl rfl
 ·exact .inr (.inl rfl)
 ·exact .inr (.inr ⟨t, rfl, (txF ht).ws⟩)
theorem Nv {e : Str × PV} (h : InE e) : e.1.length <= 1000 /\ WOK e.2 := ⟨Pq (YL h.1).ln (by decide), Do h.2⟩
noncomputable def yA (page : Loc) (q : Int) : List Str := page.map fun e => wr e.1 e.2 q
noncomputable def y4 (page : Loc) (q : Int) : Loc := page.map fun e => (e.1, tq e.2 q)
theorem MB {p : PV} {q : Int} (h : InT p) : InT (tq p q) := by
 unfold tq; split
 ·exact h
 ·exact ED h q
noncomputable def itm (r : Str) : Str := (jI r).headD PF
structure WR (r : Str) : Prop where
 g : GR r
 b : jI r = [itm r]
 i : its r = [itm r]
 e : isE (itm r) = false
 l : r.length <= 60
theorem KZ {e : Str × PV} {q : Int} (he : InE e) (hq : q = 0 \/ q = 1 \/ q = 3) : WR (wr e.1 e.2 q) /\ ent (itm (wr e.1 e.2 q)) = (e.1, tq e.2 q) := by
 have hr : zb (wr e.1 e.2 q) (e.1, tq e.2 q) := HH he.1 he.2 (hq.imp_right (Or.imp_right Or.inl))
 obtain ⟨s, g1, g2, g3, g4⟩ := hr.it
 have hit : itm (wr e.1 e.2 q) = s := by unfold itm; rw [g1]; rfl
 subst hit
 exact ⟨⟨hr.gr ⟨he.1, MB he.2⟩, g1, g2, g3, hr.ln⟩, g4⟩
section
variable {page : Loc} {q : Int}
theorem NF (h : ∀ e ∈ page, InE e) (hq : q = 0 \/ q = 1 \/ q = 3) : ∀ r ∈ yA page q, WR r := fun r hr => by
 obtain ⟨e, he, rfl⟩ := Ri.mp hr
 exact (KZ (h e he) hq).1
theorem GB (h : ∀ e ∈ page, InE e) (hq : q = 0 \/ q = 1 \/ q = 3) : ((yA page q).map itm).map ent = y4 page q := by
 unfold yA y4
 rw [Su, Su]
 exact SK fun e he => (KZ (h e he) hq).2
theorem CM {ws : List Str} (h : ∀ r ∈ ws, WR r) : ws.flatMap its = ws.map itm := by
 induction ws with
 | nil => rfl
 | cons r l ih => rw [Tt, (h r (.head _)).i, ih fun x hx => h x (.tail _ hx)]; rfl
theorem Ye {ws : List Str} (h : ∀ r ∈ ws, WR r) : (ws.map fun r => r.length + 2).sum <= 62 * ws.length := by
 induction ws with
 | nil => exact PK 0
 | cons r l ih =>
   rw [RO, TU, SX, Nat.mul_succ, UB]
   exact RP (ih fun x hx => h x (.tail _ hx)) (RX (h r (.head _)).l 2)
theorem Jh : (yA page q).length = page.length := PJ ..
theorem Fi : (y4 page q).length = page.length := PJ ..
end
theorem Fy {α : Type} {f : α -> Nat} {B : Nat} : ∀ {l : List α}, (∀ x ∈ l, f x <= B) -> (l.map f).sum <= l.length * B
 | [], _ => Rj _
 | a :: l, h => by
   rw [RO, TU, SX, Nat.succ_mul, UB]
   exact RP (Fy fun x hx => h x (.tail _ hx)) (h a (.head _))
theorem E2 (l : List Str) : (l.map (·.length)).sum <= (l.map fun r => r.length + 2).sum := by rw [<- gq l]; exact Rd ..
theorem EB {l : List Str} {n : Nat} (h0 : l ≠ []) (h : (l.map fun r => r.length + 2).sum <= n) : (PW qM l).length + 2 <= n := by
 have hj := J8 (sep := qM) h0
 rw [vG, gq] at hj
 exact Pq hj h
theorem Xo {l : List Str} (h : ∀ r ∈ l, GR r) : bad false (PW qM l) = false := JT fun c hc => (yJ hc).elim (fun ⟨r, hr, g⟩ => (h r hr).ch c g) (gW c)
section
variable {n P k T d H N : Nat} {μ0 μ : q4} {rows rows' : Ps} {zs : ZL} {q : jl} {s : St} {nq : Int}
theorem kp (h : 4 < s.kind) : KP s := ⟨by lia, by lia, by lia, by lia⟩
theorem qQ.px {kd : Nat} {k8 : (kd : Int) ≠ 8} (h : qQ k μ0 μ T d H N rows zs q s) (hk : s.kind = kd) (h4 : 4 < kd) (hp : PX (n + 3) T d H kd s.name μ rows') : wt n P μ0 μ T N s rows' (zs.map Rh ++ [.no]) := by
 obtain ⟨ν, c1, c2, c3⟩ := hp
 subst hk
 exact tP h.pi (kp h4) k8 h.zl ⟨c1, c2, c3, .inl rfl⟩
theorem jm.join {l : List Str} {new : Loc} (v : jm rows q.1 q.2.1) (f : zc s) (hg : ∀ r ∈ l, GR r) (he : (l.flatMap its).map ent = new) (hs : (l.map fun r => r.length + 2).sum <= 100 * new.length) (h0 : l ≠ []) : jm (put rows s.name (PW qM l)) (Q7 q s new) (gX q s new) :=
 v.one f (CW h0 hg) (by rw [Q9 h0 fun r hr => (hg r hr).cl]; exact he) (EB h0 hs)
theorem ND (h : qQ k μ0 μ T d H N rows zs q s) (hk : s.kind = 5) : yM n P k μ0 μ T N q s := by
 have hgr : ∀ r ∈ q7 rows (Pt s.name), GR r := fun r hr => h.p.v.gr hr
 have hp := HP (n := n + 3) h.pi.tab h.tn (fun r hr => WJ (hgr r hr).ch) h.rd.r (Xo hgr)
 refine h.fin (h.px (k8 := by decide) hk (by decide) hp) (Jr (.inl hk)) (Zh (.inl hk)) ?_
 by_cases h0 : q7 rows (Pt s.name) = []
 ·rw [if_pos h0]
  exact h.p.v.sam h.f
 ·rw [if_neg h0]
  exact h.p.v.join h.f hgr (h.p.v.pg _ h.f.two) (h.p.v.bd _ h.f.two) h0
theorem JI (h : qQ k μ0 μ T d H N rows zs q s) (x : Int) : yz (q7 rows (Pt s.name)) x = yA (q.pg s) x := by
 unfold yz yA
 rw [h.p.v.items h.f.two]; rfl
theorem qQ.told (h : qQ k μ0 μ T d H N rows zs q s) : ∀ e ∈ told rows s.name, e.1.length <= 1000 /\ WOK e.2 := by
 show ∀ e ∈ (qz (q7 rows (Pt s.name))).map ent, _
 rw [h.p.v.items h.f.two]
 exact fun e he => Nv (h.ine e he)
theorem qQ.ws (h : qQ k μ0 μ T d H N rows zs q s) (hq : nq = 0 \/ nq = 1 \/ nq = 3) : ∀ r ∈ yA (q.pg s) nq, WR r := NF h.ine hq
theorem qQ.wl (h : qQ k μ0 μ T d H N rows zs q s) : (yA (q.pg s) nq).length <= 15 := by rw [Jh]; exact h.pl
theorem qQ.wsum (h : qQ k μ0 μ T d H N rows zs q s) (hq : nq = 0 \/ nq = 1 \/ nq = 3) : ((yA (q.pg s) nq).map fun r => r.length + 2).sum <= 62 * 15 := Pq (Ye (h.ws hq)) (TK _ h.wl)
theorem qQ.jw (h : qQ k μ0 μ T d H N rows zs q s) (hq : nq = 0 \/ nq = 1 \/ nq = 3) : JW (yA (q.pg s) nq) :=
 ⟨fun r hr => WJ (h.ws hq r hr).g.ch, Pq h.wl (by decide), Pq (E2 _) (Pq (h.wsum hq) (by decide))⟩
theorem qQ.went (h : qQ k μ0 μ T d H N rows zs q s) (hq : nq = 0 \/ nq = 1 \/ nq = 3) : ((yA (q.pg s) nq).flatMap its).map ent = y4 (q.pg s) nq := by
 rw [CM (h.ws hq)]; exact GB h.ine hq
theorem qQ.wbd (h : qQ k μ0 μ T d H N rows zs q s) (hq : nq = 0 \/ nq = 1 \/ nq = 3) : ((yA (q.pg s) nq).map fun r => r.length + 2).sum <= 100 * (y4 (q.pg s) nq).length := by
 rw [Fi]
 exact Pq (Ye (h.ws hq)) (by rw [Jh]; exact af _ (by decide))
theorem Mi (hk : s.kind = 6) (page : Loc) : xJ s page = y4 page 1 := by unfold xJ y4; rw [hk]; rfl
theorem Nu (hk : s.kind = 7) (page : Loc) : xJ s page = y4 page 0 := by unfold xJ y4; rw [hk]; rfl
theorem MK (h : qQ k μ0 μ T d H N rows zs q s) (hk : s.kind = 6) : yM n P k μ0 μ T N q s := by
 have hq : (1 : Int) = 0 \/ (1 : Int) = 1 \/ (1 : Int) = 3 := .inr (.inl rfl)
 have w1 := h.ws hq
 have ha := JI h 1
 have hp := It (n := n + 3) h.pi.tab h.tn h.rd h.told (by rw [ha]; exact fun r hr => ⟨JT (w1 r hr).g.ch, Pq (w1 r hr).l (by decide)⟩) (by rw [ha]; exact Pq (RP h.rl h.wl) (by decide))
 rw [ha] at hp
 refine h.fin (h.px (k8 := by decide) hk (by decide) hp) ((He (.inl hk)).trans (Mi hk _)) (Zh (.inr (.inl hk))) ?_
 refine h.p.v.upd h.f.two (fun kv hkv => ?_) (fun y hy => ?_) ?_ ?_
 ·rcases PU.mp hkv with hm | hm
  ·exact h.p.v.nm kv (va hm)
  ·obtain ⟨r, hr', rfl⟩ := Ri.mp hm
   exact ⟨h.f.nm, (w1 r hr').g⟩
 ·rw [jH, xk hy, J5 (SO hy), PS]
 ·rw [jH, zK, kg rfl, U3]
  exact h.went hq
 ·rw [jH, zK, kg rfl, U3]
  exact h.wbd hq
theorem Mh (h : qQ k μ0 μ T d H N rows zs q s) (hk : s.kind = 7) : yM n P k μ0 μ T N q s := by
 have hq : (0 : Int) = 0 \/ (0 : Int) = 1 \/ (0 : Int) = 3 := .inl rfl
 have w1 := fun r hr => (h.ws hq r hr).g
 have ha := JI h 0
 have hp := M2 (n := n + 3) h.pi.tab h.tn h.rd h.told (by rw [ha]; exact h.jw hq) (by rw [ha]; exact Xo w1)
 rw [ha] at hp
 refine h.fin (h.px (k8 := by decide) hk (by decide) hp) ((He (.inr hk)).trans (Nu hk _)) (Zh (.inr (.inr (.inl hk)))) ?_
 by_cases h0 : yA (q.pg s) 0 = []
 ·rw [if_pos h0]
  have hto : y4 (q.pg s) 0 = q.pg s := by unfold y4; rw [T4.mp h0]; rfl
  rw [hto]
  exact h.p.v.sam h.f
 ·rw [if_neg h0]
  exact h.p.v.join h.f w1 (h.went hq) (h.wbd hq) h0
theorem qQ.val (h : qQ k μ0 μ T d H N rows zs q s) {kv : Str × Str} (hkv : kv ∈ rows) : kv.2.length <= 2000 := by
 have hm : kv.2 ∈ q7 rows (Pt kv.1) := Ri.mpr ⟨kv, RM.mpr ⟨hkv, beq_self_eq_true _⟩, rfl⟩
 exact Pq (Rd _ 2) (Pq (Hw hm) (Pq (h.p.v.bd _ (xP _ (h.p.v.nm kv hkv).1)) (TK 100 (wY h.a h.b _))))
theorem qQ.r9 (h : qQ k μ0 μ T d H N rows zs q s) {kv : Str × Str} (hkv : kv ∈ rows) : R9 kv := by
 obtain ⟨hn, hg⟩ := h.p.v.nm kv hkv
 obtain ⟨a1, a2, ⟨a3, a4⟩, a5, a6⟩ := zJ _ hn
 obtain ⟨b1, b2, _⟩ := zJ _ a5
 exact ⟨a2, Pq (h.val hkv) (by decide), a3, a4, fun hc => absurd (hg.ch _ hc) (by decide +kernel), b2, b1, JT hg.ch⟩
theorem Kx {kv : Str × Str} (h1 : kv.1.length <= 1000) (h2 : kv.2.length <= 2000) : (line kv).length <= 3002 := by
 unfold line
 rw [PN, PN]
 exact RP (RP h1 (PK 2)) h2
theorem Nl (h : qQ k μ0 μ T d H N rows zs q s) (hk : s.kind = 9) : yM n P k μ0 μ T N q s := by
 have hsum : ((rows.map line).map (·.length)).sum <= 500000 := by
  rw [Su]
  exact Pq (Fy fun kv hkv => Kx (h.r9 hkv).l1 (h.val hkv)) (Pq (af _ h.rl) (by decide))
 obtain ⟨ν, T', d', H', c1, c2, c3, c4⟩ := Ly (n := n + 3) (nm := s.name) h.pi.tab h.rl' (fun kv hkv => h.r9 hkv) hsum
 have h9 : (s.kind : Int) = 9 := congrArg _ hk
 have hd := tP (n := n) (P := P) h.pi (kp (by rw [hk]; decide)) (by rw [h9]; decide) h.zl ⟨by rw [h9]; exact c1, c2, c3, .inr c4⟩
 refine h.fin hd (Jr (.inr (.inr hk))) (Zh (.inr (.inr (.inr hk)))) ?_
 have hsw := fun y => Y5 (fun kv hkv => (h.p.v.nm kv hkv).1) (rows := rows) y
 refine h.p.v.upd h.f.two (fun kv hkv => ?_) (fun y zz => hsw y) (by rw [hsw]; exact h.p.v.pg _ h.f.two) (by rw [hsw]; exact h.p.v.bd _ h.f.two)
 obtain ⟨x, hx, rfl⟩ := Ri.mp hkv
 exact ⟨(zJ _ (h.p.v.nm x hx).1).2.2.2.1, (h.p.v.nm x hx).2⟩
end
theorem MQ (page : Loc) : y4 page 3 = page := by
 have : (fun e : Str × PV => (e.1, tq e.2 3)) = id := funext fun e => cu rfl (OH (.inr rfl))
 unfold y4
 rw [this, List.map_id]
theorem WI {ws : List Str} (h : ∀ r ∈ ws, GR r) : ∀ c ∈ (j9 ws).cps.toList, okC c = true := by
 intro c hc
 unfold j9 at hc
 rw [qr, qr, mem_append, mem_append] at hc
 have e1 : ∀ c ∈ bl8.cps.toList, okC c = true := by decide +kernel
 have e2 : ∀ c ∈ FK.cps.toList, okC c = true := by decide +kernel
 rcases hc with (h1 | h1) | h1
 ·exact e1 c h1
 ·rcases yJ h1 with ⟨r, hr, h2⟩ | h2
  ·exact (h r hr).ch c h2
  ·exact Ei c h2
 ·exact e2 c h1
theorem G7 {ws : List Str} : (j9 ws).length <= 1 + ((ws.map (·.length)).sum + ws.length * 4) + 3 := by
 have l1 : bl8.length = 1 := by decide +kernel
 have l2 : FK.length = 3 := by decide +kernel
 have l3 : xW.length = 4 := by decide +kernel
 have hj := yW (sep := xW) (l := ws)
 unfold j9
 rw [l3] at hj
 rw [PN, PN, l1, l2]
 exact RX (So hj 1) 3
structure WD (ws : List Str) : Prop where
 g : GR (j9 ws)
 i : its (j9 ws) = ws.map itm
 e : (qH (j9 ws)).map isE = (Rw ws.length [false, true]).flatten
 l : (j9 ws).length + 2 <= 100 * ws.length
theorem Mj {ws : List Str} (h0 : ws ≠ []) (h : ∀ r ∈ ws, WR r) : WD ws := by
 obtain ⟨b1, b2, b3⟩ := VP (g := itm) h0 fun r hr => ⟨(h r hr).g.cl, (h r hr).b⟩
 have hall : ∀ x ∈ ws.map itm, isE x = false := fun x hx => by
  obtain ⟨r, hr, rfl⟩ := Ri.mp hx
  exact (h r hr).e
 rw [fM hall] at b2
 have hwn : ws.map itm ≠ [] := fun e => h0 (T4.mp e)
 have halt := WT hwn hall
 rw [<- b1, PJ] at halt
 refine ⟨⟨b3, by rw [b2]; exact hwn, fun y hy => ?_, WI fun r hr => (h r hr).g⟩, b2, halt, ?_⟩
 ·rw [b2] at hy
  obtain ⟨r, hr, rfl⟩ := Ri.mp hy
  exact (h r hr).g.io _ (by rw [(h r hr).i]; exact .head _)
 ·have h1 := Ye h
  have h2 := gq ws
  have h3 := G7 (ws := ws)
  have h4 : ws.length ≠ 0 := fun e => h0 (List.eq_nil_of_length_eq_zero e)
  lia
theorem NR {x : Str} (h : GR x) (hl : x.length <= 10000) : R8 x := by
 have hh := J0 x
 refine ⟨fun c hc => Zi (h.ch c hc), Pq hl (by decide), Pq hh (Pq (Rb hl) (by decide)), fun y hy => ?_⟩
 induction he : (y == Pv "") with
 | true => rw [eq_of_beq he]; exact Ct
 | false =>
   have hm : y ∈ its x := by
    unfold its
    rw [RM, he]
    exact ⟨Yg hy, rfl⟩
   exact (h.io y hm).2.1
section
variable {n P k T d H N : Nat} {μ0 μ : q4} {rows rows' : Ps} {zs : ZL} {q : jl} {s : St}
theorem HD {r : Str} (h : TN rows s.name) (hr : rows.length <= 1000) : TN (put rows s.name r) s.name :=
 ⟨h.n, h.b, by unfold put; rw [PB]; exact Pq (RX (Pq zO hr) 1) (by decide), fun kv hkv => (PU.mp hkv).elim (fun hm => h.k kv (va hm)) fun hm => by rw [Pw.mp hm]; exact h.n.toKeyOK⟩
theorem qQ.p8 (h : qQ k μ0 μ T d H N rows zs q s) {x : Str} (hk : s.kind = 8) (hp : PX (n + 3) T d H 8 s.name μ rows') (ht : TN rows' s.name) (hx : x = (first rows' (Pt s.name)).getD emS) (r : R8 x) : wt n P μ0 μ T N s rows' (zs.map Rh ++ [.lst ((qH x).map isE)]) := by
 obtain ⟨ν, c1, c2, c3⟩ := hp
 have h8 : (s.kind : Int) = 8 := congrArg _ hk
 exact t8 h.pi (kp (by rw [hk]; decide)) h8 h.zl ⟨by rw [h8]; exact c1, c2, c3, .inl rfl⟩ ht hx r
theorem OP : R8 emS := ⟨by decide +kernel, by decide +kernel, by decide +kernel, by decide +kernel⟩
theorem MT (h : qQ k μ0 μ T d H N rows zs q s) (hk : s.kind = 8) : yM n P k μ0 μ T N q s := by
 have hq : (3 : Int) = 0 \/ (3 : Int) = 1 \/ (3 : Int) = 3 := .inr (.inr rfl)
 have w1 := h.ws hq
 have ha := JI h 3
 have hp := HY (n := n + 3) h.pi.tab h.tn h.rd h.told (by rw [ha]; exact h.jw hq) (by rw [ha]; exact JT (WI fun r hr => (w1 r hr).g))
 rw [ha] at hp
 by_cases h0 : yA (q.pg s) 3 = []
 ·rw [if_pos h0] at hp
  have hpe : q.pg s = [] := T4.mp h0
  have hf : first rows (Pt s.name) = none := ((h.p.v.fst h.f.two).1).mpr hpe
  refine h.fin (h.p8 hk hp h.tn (x := emS) (by rw [hf]; rfl) OP) (Jr (.inr (.inl hk))) ((EC hk).trans ?_) (h.p.v.sam h.f)
  rw [hpe, show (qH emS).map isE = [] by decide +kernel]; rfl
 ·rw [if_neg h0] at hp
  have wd := Mj h0 w1
  have hfr : first (put rows s.name (j9 (yA (q.pg s) 3))) (Pt s.name) = some (j9 (yA (q.pg s) 3)) := by rw [yg, wS]; rfl
  have hl : (j9 (yA (q.pg s) 3)).length <= 10000 := Pq (Pq (Rd _ 2) wd.l) (Pq (TK 100 h.wl) (by decide))
  refine h.fin (h.p8 hk hp (HD h.tn h.rl') (x := j9 (yA (q.pg s) 3)) (by rw [hfr]; rfl) (NR wd.g hl)) (Jr (.inr (.inl hk))) ((EC hk).trans ?_) (h.p.v.one h.f wd.g ?_ ?_)
  ·rw [wd.e, Jh]
  ·rw [wd.i, GB h.ine hq, MQ]
  ·have := wd.l
   rwa [Jh] at this
theorem ten {k : Nat} (h : k < 10) : k = 0 \/ k = 1 \/ k = 2 \/ k = 3 \/ k = 4 \/ k = 5 \/ k = 6 \/ k = 7 \/ k = 8 \/ k = 9 := by lia
theorem N5 (h : qQ k μ0 μ T d H N rows zs q s) : yM n P k μ0 μ T N q s := by
 rcases ten h.f.kd with g | g | g | g | g | g | g | g | g | g
 ·exact FH (z := false) h g
 ·exact FH (z := true) h g
 ·exact NZ h g
 ·exact NN h g
 ·exact MC h g
 ·exact ND h g
 ·exact MK h g
 ·exact Mh h g
 ·exact MT h g
 ·exact Nl h g
end
section
variable {s : Str} {r items : List Str} {d page : Loc} {p : PV} {l : List PV} {e : Str × PV}
inductive KQ (s : Str) (r : List Str) (d : Loc) : Prop where
 | go (o : YO (ent s).2 = false) (h : kq (s :: r) d = kq r (qR d (ent s).1 (ent s).2))
 | stop (x : Exn) (o : YO (ent s).2 = true) (h : kq (s :: r) d = .error x) (t : JZ x = (ent s).2)
theorem MW (h : zU s) : KQ s r d := by
 rcases h.s with ⟨x, hs⟩ | ⟨k, v, hs, _⟩
 ·have e : (ent s).2 = .none := by unfold ent; rw [hs]; rfl
  refine .stop wK (by rw [e]; rfl) (by unfold kq; rw [hs]; rfl) (by rw [e]; exact if_pos rfl)
 ·by_cases h0 : v.length = 0
  ·have e : (ent s).2 = .int 0 := by unfold ent; rw [hs]; exact if_pos h0
   refine .stop xI (by rw [e]; rfl) ?_ (by rw [e]; exact if_neg (by decide))
   rw [kq, hs]
   exact if_pos h0
  ·have e : ent s = (k, .str (unq v)) := by
    unfold ent
    rw [hs]
    exact cu rfl (if_neg h0)
   refine .go (by rw [e]; rfl) ?_
   rw [e, kq, hs]
   exact if_neg h0
theorem BG (o : YO e.2 = false) : z0 (e :: page) = z0 page := by
 unfold z0
 rw [RO, filter_cons, o]; rfl
theorem Ba (o : YO e.2 = true) : z0 (e :: page) = e.2 :: z0 page := by
 unfold z0
 rw [RO, filter_cons, o]; rfl
theorem Mp (h : ∀ s ∈ items, zU s) (ho : z0 (items.map ent) = []) : kq items d = .ok ((items.map ent).foldl (fun d e => qR d e.1 e.2) d) := by
 induction items generalizing d with
 | nil => rfl
 | cons s r ih =>
   cases MW (r := r) (d := d) (h s (.head _)) with
   | go o q =>
     rw [RO, BG o] at ho
     exact q.trans (ih (fun x hx => h x (.tail _ hx)) ho)
   | stop x o q t =>
     rw [RO, Ba o] at ho
     cases ho
theorem HV (h : ∀ s ∈ items, zU s) (ho : z0 (items.map ent) = p :: l) : ∃ x, kq items d = .error x /\ JZ x = p := by
 induction items generalizing d with
 | nil => cases ho
 | cons s r ih =>
   cases MW (r := r) (d := d) (h s (.head _)) with
   | go o q =>
     rw [RO, BG o] at ho
     rw [q]
     exact ih (fun x hx => h x (.tail _ hx)) ho
   | stop x o q t =>
     rw [RO, Ba o] at ho
     exact ⟨x, q, t.trans (aK ho).1⟩
end
noncomputable def JV (e x : Str × PV) : Str × PV := if x.1 = e.1 then (x.1, e.2) else x
theorem Wa {page : Loc} {e : Str × PV} {i : Nat} (h : i < page.length) : kAt (page ++ [e]) i = kAt page i := by
 unfold kAt
 rw [Rt, S7, S7, RB (by simpa using h)]
theorem WZ {page : Loc} {e : Str × PV} : kAt (page ++ [e]) page.length = e.1 := by
 unfold kAt
 rw [Rt, S7, Rn (by simp)]
 simp
theorem Dp {page : Loc} {e : Str × PV} {i : Nat} (h : i < page.length) : gAt (page ++ [e]) i = gAt page i := by
 unfold gAt
 rw [Wa h, Rt, Tb (by simp; lia)]
theorem Di {page : Loc} {e : Str × PV} : gAt (page ++ [e]) page.length = !(page.map (·.1)).contains e.1 := by
 unfold gAt
 rw [WZ, Rt, Tb (by simp), Tg (by simp)]
theorem Zo {page : Loc} {e : Str × PV} {k : Str} : vK (page ++ [e]) k = vK page k ++ (if e.1 = k then [e.2] else []) := by
 unfold vK
 rw [SM, Rt]
 by_cases h : e.1 = k
 ·rw [if_pos h]; simp [h]
 ·rw [if_neg h]
  have : (e.1 == k) = false := by rw [beq_eq_false_iff_ne]; exact h
  simp [this]
theorem Kk {page : Loc} {e : Str × PV} {i : Nat} (h : i < page.length) : kC (page ++ [e]) i = JV e (kC page i) := by
 unfold kC JV
 rw [Wa h, Zo]
 simp only
 by_cases hk : e.1 = kAt page i
 ·rw [if_pos hk, if_pos hk.symm]; simp
 ·rw [if_neg hk, if_neg (SO hk), PS]
theorem KJ {page : Loc} {e : Str × PV} : kC (page ++ [e]) page.length = e := by
 unfold kC
 rw [WZ, Zo, if_pos rfl]
 simp
theorem fo (page : Loc) (e : Str × PV) : qJ (page ++ [e]) = (qJ page).map (JV e) ++ (if (page.map (·.1)).contains e.1 then [] else [e]) := by
 unfold qJ
 rw [PB, List.length_singleton, bM, SM, Rt]
 congr 1
 ·rw [Su, UX fun i hi => Dp (e := e) (Ug.mp hi)]
  exact SK fun i hi => Kk (Ug.mp (RM.mp hi).1)
 ·rw [filter_cons, Di]
  induction (page.map (·.1)).contains e.1 with
  | true => rfl
  | false => exact congrArg (· :: []) KJ
theorem E7 {l : Loc} {e : Str × PV} {k : Str} : (l.map (JV e)).any (fun kv => decide (kv.1 = k)) = l.any (fun kv => decide (kv.1 = k)) := by
 rw [An]
 congr 1
 funext x
 show decide ((JV e x).1 = k) = _
 unfold JV
 split <;> rfl
theorem Xu {α : Type} {P : List α -> Prop} (h0 : P []) (hs : ∀ l a, P l -> P (l ++ [a])) (l : List α) : P l := by
 have : ∀ m : List α, P m.reverse := by
  intro m
  induction m with
  | nil => exact h0
  | cons a m ih => rw [bb]; exact hs _ _ ih
 rw [<- Uq l]
 exact this _
theorem Zz (page : Loc) : ∀ k, (qJ page).any (fun kv => decide (kv.1 = k)) = (page.map (·.1)).contains k := by
 refine Xu (P := fun page => ∀ k, (qJ page).any (fun kv => decide (kv.1 = k)) = (page.map (·.1)).contains k) (fun k => rfl) (fun page e ih k => ?_) page
 rw [fo, bQ, E7, ih k, Rt]
 rw [Bool.eq_iff_iff]
 induction hc : (page.map (·.1)).contains e.1 with
 | true =>
   simp only [if_true, List.any_nil, A1, RR, mem_append, RO, Al, mem_singleton]
   constructor
   ·exact .inl
   ·rintro (h | rfl)
    ·exact h
    ·exact RR.mp hc
 | false =>
   simp only [R7, if_false, TS, List.any_nil, A1, Tk, decide_eq_true_eq, RR, mem_append, RO, Al, mem_singleton]
   constructor
   ·rintro (h | h)
    ·exact .inl h
    ·exact .inr h.symm
   ·rintro (h | h)
    ·exact .inl h
    ·exact .inr h.symm
theorem VU (page : Loc) : page.foldl (fun d e => qR d e.1 e.2) [] = qJ page := by
 refine Xu (P := fun page => page.foldl (fun d e => qR d e.1 e.2) [] = qJ page) rfl (fun page e ih => ?_) page
 rw [bl, ih, fo]
 show qR (qJ page) e.1 e.2 = _
 unfold qR
 rw [Zz]
 induction hc : (page.map (·.1)).contains e.1 with
 | true =>
   rw [if_pos rfl, if_pos rfl, PS]
   rfl
 | false =>
   rw [if_neg (by decide), if_neg (by decide)]
   have : (qJ page).map (JV e) = qJ page := by
    have h1 : ∀ x ∈ qJ page, JV e x = x := by
     intro x hx
     unfold JV
     rw [if_neg]
     intro he
     have h2 := Zz page e.1
     rw [hc, bj] at h2
     have := h2 x hx
     simp [he] at this
    rw [SK h1, List.map_id']
   rw [this]
theorem FV {page : Loc} {e : Str × PV} (h : e ∈ qJ page) : (∃ x ∈ page, x.1 = e.1) /\ (∃ x ∈ page, x.2 = e.2) := by
 unfold qJ at h
 obtain ⟨i, hi, rfl⟩ := Ri.mp h
 have hi2 := (RM.mp hi).1
 have hlt := Ug.mp hi2
 refine ⟨⟨page[i], Rx hlt, (gw hlt).symm⟩, ?_⟩
 have hl := QH hlt
 have hm := List.mem_of_getLast? hl
 unfold vK at hm
 obtain ⟨x, hx, he⟩ := Ri.mp hm
 exact ⟨x, (RM.mp hx).1, he⟩
theorem JU {e : Str × PV} (h : InE e) : EOK e := ⟨WJ (YL h.1).ch, V2 h.2⟩
theorem BL.pl {q : jl} {n : Nat} (b : BL q n) (hn : n <= 15) (x : Str) : (qv q.1 q.2.1 x).length <= 15 := wY (Pq b.la hn) (Pq b.lb hn) x
theorem H0 {q : jl} {n : Nat} {rows : Ps} {ns : List jG} (p : PG q n rows ns) (hn : n <= 15) {x : Str} (hx : wq x) : ZJ rows (qv q.1 q.2.1 x) x := by
 have la := Pq p.l.la (Pq hn (by decide : 15 <= 20))
 have lb := Pq p.l.lb (Pq hn (by decide : 15 <= 20))
 obtain ⟨f1, f2, f3, f4, f5, f6⟩ := wk _ (gn hx)
 have hine := p.v.ine hx
 have rd := p.v.rd la lb (x := x) (by rw [f4]; exact hx)
 have hit := p.v.items hx
 have hio : ∀ s ∈ qz (q7 rows x), zU s := by
  have := rd.hio
  rw [f4] at this
  exact fun s hs => (this s hs).ok
 have hlast : ∀ e ∈ qJ (qv q.1 q.2.1 x), e.1.length <= 1000 /\ EOK e := by
  intro e he
  obtain ⟨⟨a, ha, h1⟩, ⟨b, hb, h2⟩⟩ := FV he
  have ka := hine a ha
  rw [<- h1]
  exact ⟨Pq (YL ka.1).ln (by decide), by rw [<- h1]; exact (JU ka).1, by rw [<- h2]; exact (JU (hine b hb)).2⟩
 refine ⟨hx, f4, f5, Pq f6 (by decide), p.v.rd la lb (by rw [f5]; exact hx), rd, hit, fun e he => JU (hine e he), Pq (p.l.pl hn x) (by decide), fun ho => ?_, fun pv l ho => ?_, fun e he => (hlast e he).1, fun e he => (hlast e he).2, ?_⟩
 ·rw [<- hit] at ho ⊢
  rw [Mp hio ho, VU]
 ·rw [<- hit] at ho
  exact HV hio ho
 ·have hf := (p.v.fst hx).1
  induction hq : first rows x with
  | none =>
    rw [hf.mp hq]
    rfl
  | some r =>
    induction hp : qv q.1 q.2.1 x using PD with
    | nil => rw [hf.mpr hp] at hq; cases hq
    | cons a l => rfl
set_option tactic.hygienic true in
theorem BK {s : St} (f : zc s) : ∀ e ∈ qO s, InE e := fun e he => by
 unfold qO at he
 split at he
 ·rename_i hg
  rw [Pw.mp he]
  obtain ⟨k1, k2⟩ := BV f.ky
  refine ⟨?_, vx f.tx hg _⟩
  show (if s.kind = 1 then zed ++ s.key else s.key) ∈ K6
  split
  ·exact k2
  ·exact k1
 ·cases he
theorem BX {s : St} (f : zc s) {page : Loc} (h : ∀ e ∈ page, InE e) : ∀ e ∈ zm s page, InE e := fun e he => by
 have hf := BK f e
 have h := h e
 have ht : e ∈ xJ s page -> InE e := fun he => by
  obtain ⟨x, hx, rfl⟩ := Ri.mp he
  exact ⟨(‹∀ e ∈ page, InE e› x hx).1, ED (‹∀ e ∈ page, InE e› x hx).2 _⟩
 unfold zm kM at he
 split at he
 ·exact (PU.mp he).elim h hf
 ·split at he
  ·exact hf he
  ·split at he
   ·split at he
    ·exact hf he
    ·exact h he
   ·split at he
    ·cases he
    ·split at he
     ·exact ht he
     ·exact h he
structure Kz (q : jl) (n : Nat) : Prop where
 a : ∀ e ∈ q.1, InE e
 b : ∀ e ∈ q.2.1, InE e
 l : BL q n
theorem Kz.pg {q : jl} {n : Nat} (b : Kz q n) (s : St) : ∀ e ∈ q.pg s, InE e := by
 unfold jl.pg qv
 split
 ·exact b.a
 ·exact b.b
theorem Kz.step {q : jl} {n : Nat} {s : St} (b : Kz q n) (f : zc s) : Kz (Bn q s) (n + 1) := by
 have h3 := BX f (b.pg s)
 refine ⟨?_, ?_, b.l.step s⟩
 ·show ∀ e ∈ Q7 q s _, InE e
  unfold Q7
  split
  ·exact h3
  ·exact b.a
 ·show ∀ e ∈ gX q s _, InE e
  unfold gX
  split
  ·exact b.b
  ·exact h3
noncomputable def gv (l : List St) (i : Nat) : jl := (l.take i).foldl Bn ([], [], [])
theorem Qy {l : List St} {i : Nat} (h : i < l.length) : gv l (i + 1) = Bn (gv l i) l[i] := by
 unfold gv
 rw [<- List.take_append_getElem h, bl]
 rfl
theorem Wy {xs : List Int} {s : St} (h : s ∈ jf xs) : zc s := by
 obtain ⟨i, _, rfl⟩ := Ri.mp h
 exact Oa _
theorem QI (xs : List Int) : (jf xs).length <= 11 := by
 unfold jf
 rw [PJ, PB, T9]
 exact So (TZ ..) 6
theorem Dk {p : PV} (h : InT p) : TL1 p := by
 rcases h with rfl | rfl | ⟨t, ht, _, rfl⟩
 ·exact .inl rfl
 ·exact .inr (.inl rfl)
 ·exact .inr (.inr ⟨t, rfl, (txF ht).so, Pq (txF ht).ln (by decide)⟩)
noncomputable abbrev GPq (xs : List Int) (i : Nat) (rows : Ps) (ns : List jG) : Prop := PG (gv (jf xs) i) i rows ns
structure GDq (xs : List Int) (i : Nat) (pa pb : Loc) (ns : List jG) : Prop where
 e : gv (jf xs) i = (pa, pb, ns)
 b : Kz (pa, pb, ns) i
theorem OL (xs : List Int) : GPq xs 0 [] [] := by
 have h : ∀ x, qv [] [] x = [] := fun x => by unfold qv; split <;> rfl
 exact ⟨⟨fun zz h => (nomatch h), fun x zz => (h x).symm, fun x zz => Rj _⟩, rfl, ⟨PK _, PK _, PK _⟩⟩
theorem Ot (xs : List Int) : GDq xs 0 [] [] [] := ⟨rfl, ⟨fun zz h => (nomatch h), fun zz h => (nomatch h), ⟨PK _, PK _, PK _⟩⟩⟩
theorem Er (xs : List Int) : g9 (jf xs) (GDq xs) := fun i hi pa pb ns ⟨he, hb⟩ => by
 have f := Wy (Rx hi)
 have hl := QI xs
 have hi' : i <= 15 := Pq (Tf hi) (Pq hl (by decide))
 have p1 := hb.pg (jf xs)[i]
 refine ⟨⟨f.stf, f.two, f.kd, fun e h => ⟨JU (p1 e h), Dk (p1 e h).2⟩, Pq hb.l.ln (Pq hi' (by decide)), Pq (hb.l.pl hi' _) (by decide)⟩, ?_, hb.step f⟩
 rw [Qy hi, he]; rfl
theorem law201 (xs : List Int) (hl : xs.length <= 63) : ∃ μ', (evN ftT 201).call 250 [.il xs] [] [] = some (.ok (.bool true), μ') := by
 have hlen := Pq (QI xs) (show 11 <= 15 by decide)
 refine DL (n := 79) (μ := []) hl (GP := GPq xs) (GD := GDq xs) (OL xs) (Ot xs) (fun P i hi μ0 μ1 T d H N rows zs hG pi => ?_) (Er xs) (fun rows ns pa pb ns' hP hD => ?_)
 ·obtain ⟨rows', ns', h1, h2⟩ := N5 (n := 79 + 17) (P := P) ⟨hG, Pq (Tf hi) hlen, pi, Wy (Rx hi)⟩
  exact ⟨rows', ns', h1, by rw [GPq, Qy hi]; exact h2⟩
 ·have hP : PG _ _ rows ns := hP
  rw [hD.e] at hP
  exact ⟨hP.e, H0 hP hlen (.inl rfl), H0 hP hlen (.inr rfl)⟩
end Mine
theorem PySem.Challenge.cw_pk0114_01_holds : PySem.Challenge.rw_pk0114_01.Holds :=
 Mine.link (Mine.lawP_of Mine.law201)
